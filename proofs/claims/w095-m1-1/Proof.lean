import JvmDerived
import JvmDerived.Pilot.@@N@@Statement
import JvmDerived.Pilot.@@N@@Code
set_option linter.unusedVariables false
set_option linter.unusedSimpArgs false
namespace Jvm.Pilot.@@N@@
open Jvm Jvm.ClassFile Sem Op Lib Jvm.Free Jvm.Stand Jvm.LawKit Jvm.RoadKit Bundle Jvm.Pilot.@@N@@.Jvm.D
section OwnKit
variable {p : Program} {l : Launch} {e : Env} {R : Room} {s : State} {m : MethodId} {args : Array Value} {below : List Frame} {meth : Method} {c : Code} {T U W : State} {locs : List Loc} {cells slots : Nat} {Q : Option Value → Heap → List Loc → Prop} {K N : Nat}
/-- from U the body comes to its end, and Q holds there -/
def own_Ends (p : Program) (e : Env) (below : List Frame) (s : State) (Q : Option Value → Heap → List Loc → Prop) (K N : Nat) (U : State) : Prop :=
  ∃ s₂ o, Steps p.tables e below U s₂ ∧ s₂.status = .running ∧ Ended s₂ below o ∧ ∃ v L, o = .returned v ∧ Q v s₂.heap L ∧ FrameEnd s o s₂ L K N
theorem own_by {V : State} (h : ∀ t, Steps p.tables e below V t → Steps p.tables e below U t) (k : own_Ends p e below s Q K N V) : own_Ends p e below s Q K N U := by
  obtain ⟨s2, o, h1, h2⟩ := k; exact ⟨s2, o, h _ h1, h2⟩
theorem own_ret0 (X : Stand p l e R s m args below meth c T locs cells slots) (hx : p.tables.exec = Jvm.exec) (hlk : meth.locks = false) {h : Heap} (eT : T.heap = h) {pc : Nat} {Ls : Array Slot} (hret : meth.sig.returnType = none)
    (hd : decode c.code pc = .ok (.return_, 1)) (hQ : Q none h locs) (hK : cells ≤ K) (hN : slots ≤ N) : own_Ends p e below s Q K N (T.setTop (mkF m pc Ls [])) := by
  obtain ⟨fs, hr, hrun, hended, hW, hsame⟩ := X.leave (v := none) (fun _ => rfl) hlk
  exact ⟨_, _, X.returnOut hx hret hd hr, hrun, hended, _, _, rfl, (by subst eT; exact hQ), ⟨_, rfl⟩, hW, hsame.mono hK hN⟩
theorem own_retI (X : Stand p l e R s m args below meth c T locs cells slots) (hx : p.tables.exec = Jvm.exec) (hlk : meth.locks = false) {h : Heap} (eT : T.heap = h) {pc : Nat} {Ls : Array Slot} {z : Int32} {rest : List Value} (hret : meth.sig.returnType = some .int)
    (hd : decode c.code pc = .ok (.ireturn, 1)) (hQ : Q (some (.int z)) h locs) (hK : cells ≤ K) (hN : slots ≤ N) : own_Ends p e below s Q K N (T.setTop (mkF m pc Ls (.int z :: rest))) := by
  obtain ⟨fs, hr, hrun, hended, hW, hsame⟩ := X.leave (v := some (.int z)) (fun h => by rw [hret] at h; cases h) hlk
  exact ⟨_, _, retOut X hx hret rfl (Or.inl ⟨rfl, Or.inl rfl, z, rfl⟩) hd hr, hrun, hended, _, _, rfl, (by subst eT; exact hQ), ⟨_, rfl⟩, hW, hsame.mono hK hN⟩
theorem own_retN (X : Stand p l e R s m args below meth c T locs cells slots) (hx : p.tables.exec = Jvm.exec) (hlk : meth.locks = false) {h : Heap} (eT : T.heap = h) {pc : Nat} {Ls : Array Slot} {z : Int32} {t : FieldType} {rest : List Value} (hret : meth.sig.returnType = some t) (ht : t = .boolean ∨ t = .byte ∨ t = .char ∨ t = .short) (hz : nar t z = z)
    (hd : decode c.code pc = .ok (.ireturn, 1)) (hQ : Q (some (.int z)) h locs) (hK : cells ≤ K) (hN : slots ≤ N) : own_Ends p e below s Q K N (T.setTop (mkF m pc Ls (.int z :: rest))) := by
  obtain ⟨fs, hr, hrun, hended, hW, hsame⟩ := X.leave (v := some (.int z)) (fun h => by rw [hret] at h; cases h) hlk
  exact ⟨_, _, retN X hx hret ht hd (by rw [hz]; exact hr), hrun, hended, _, _, rfl, (by subst eT; exact hQ), ⟨_, rfl⟩, hW, hsame.mono hK hN⟩
theorem own_retL (X : Stand p l e R s m args below meth c T locs cells slots) (hx : p.tables.exec = Jvm.exec) (hlk : meth.locks = false) {h : Heap} (eT : T.heap = h) {pc : Nat} {Ls : Array Slot} {z : Int64} {rest : List Value} (hret : meth.sig.returnType = some .long)
    (hd : decode c.code pc = .ok (.lreturn, 1)) (hQ : Q (some (.long z)) h locs) (hK : cells ≤ K) (hN : slots ≤ N) : own_Ends p e below s Q K N (T.setTop (mkF m pc Ls (.long z :: rest))) := by
  obtain ⟨fs, hr, hrun, hended, hW, hsame⟩ := X.leave (v := some (.long z)) (fun h => by rw [hret] at h; cases h) hlk
  exact ⟨_, _, retOut X hx hret rfl (Or.inr (Or.inl ⟨rfl, rfl, z, rfl⟩)) hd hr, hrun, hended, _, _, rfl, (by subst eT; exact hQ), ⟨_, rfl⟩, hW, hsame.mono hK hN⟩
theorem own_retA (X : Stand p l e R s m args below meth c T locs cells slots) (hx : p.tables.exec = Jvm.exec) (hlk : meth.locks = false) {h : Heap} (eT : T.heap = h) {pc : Nat} {Ls : Array Slot} {w : Value} {t : FieldType} {rest : List Value} (hw : w.isRef = true) (hret : meth.sig.returnType = some t) (ht : t.isReference = true)
    (hd : decode c.code pc = .ok (.areturn, 1)) (hQ : Q (some w) h locs) (hK : cells ≤ K) (hN : slots ≤ N) : own_Ends p e below s Q K N (T.setTop (mkF m pc Ls (w :: rest))) := by
  obtain ⟨fs, hr, hrun, hended, hW, hsame⟩ := X.leave (v := some w) (fun h => by rw [hret] at h; cases h) hlk
  exact ⟨_, _, retOut X hx hret (by cases t <;> cases w <;> first | rfl | (simp [FieldType.isReference] at ht) | (simp [Value.isRef] at hw)) (Or.inr (Or.inr (Or.inr (Or.inr ⟨rfl, ht, hw⟩)))) hd hr, hrun, hended, _, _, rfl, (by subst eT; exact hQ), ⟨_, rfl⟩, hW, hsame.mono hK hN⟩

theorem own_neg1 : (-1 : Int32).toInt = -1 := rfl
end OwnKit
theorem own_selPriv {s : State} {args args' : Array Value} {y : MethodName} {n : Nat} (wi : (Cond.instantiable y.cls n).before args s = true) (wp : (Cond.privateMethod y).before args' s = true) (wm : (Cond.instanceMethod y).before args s = true) (hy : y.cls ≠ "java/lang/invoke/MethodHandle" ∧ y.cls ≠ "java/lang/invoke/VarHandle") : (Cond.selects y.cls y y).before args s = true := by
  obtain ⟨c, k, h1, h2, h3, h4, -⟩ := Cond.instantiable_spec wi
  exact selects_self_of_private h1 h2 (Bool.or_eq_false_iff.mp h4).1 (Cond.privateMethod_at wp) wm hy
section OwnWords
variable {args : Array Value} {s : State} {t : Term} {x : Addr} {C n d : String} {cl : Cell} {ty : FieldType}
theorem own_evI {k : Int32} (h : (Cond.eq t (.int k)).value args s none s [] = some true) : t.eval args s none [] s = some (.int k) := by
  obtain ⟨y, z, h1, h2, h3, -⟩ := cmp_v (Or.inl h)
  have h2' : z = .int k := (Option.some.inj h2).symm
  subst h2'
  cases y with
  | int v =>
    have q : v = k := by simpa [Cond.value, h1, Term.eval] using h
    rw [h1, q]
  | _ => simp [Kin, Value.isRef] at h3
theorem own_fldS {k : Int32} (ht : t.eval args s none [] s = some (.ref x)) (h : (Cond.eq (.field t C n d) (.int k)).value args s none s [] = some true) : Fld s s.heap x C n d (.int k) :=
  Fld.start ((fld_at ht).symm.trans (own_evI h))
theorem own_lenEv {k : Int32} (ev : t.eval args s none [] s = some (.ref x)) (A : Arr s s.heap x cl ty) (h : (Cond.eq (.length t) (.int k)).value args s none s [] = some true) : cl.slots.size.toInt32 = k ∧ cl.slots.size < 2 ^ 31 := by
  have e := own_evI h
  have hat := A.fin (Vm.Alike.refl _)
  simp only [Term.eval, ev, hat, Option.bind_eq_bind, Option.bind_some] at e
  split at e
  · rename_i hlt
    exact ⟨Value.int.inj (Option.some.inj e), hlt⟩
  · cases e
theorem own_len256 (ev : t.eval args s none [] s = some (.ref x)) (A : Arr s s.heap x cl ty) (h : (Cond.eq (.length t) (.int 256)).value args s none s [] = some true) : cl.slots.size = 256 := by
  obtain ⟨h1, h2⟩ := own_lenEv ev A h
  have q := len_toInt h2
  rw [h1] at q
  have q' : (256 : Int32).toInt = 256 := rfl
  omega
theorem own_cacheEl {K : String} {E : Jvm.Cond} (ev : (Term.static K n d).eval args s none [] s = some (.ref x)) (A : Arr s s.heap x cl ty) (hsz : cl.slots.size = 256) (h : (Cond.all (.static K n d) (.and (.exactly (.elem (.static K n d) (.index 0)) C) E)).value args s none s [] = some true) : ∀ j, j < 256 → ∃ b, cl.slots[j]? = some (.ref b) ∧ Exa s s.heap b C := by
  intro j hj
  have hat := A.fin (Vm.Alike.refl _)
  obtain ⟨h1, -⟩ := and_e (Cond.all_elim ev hat h j (by rw [hsz]; exact hj))
  obtain ⟨b, eb⟩ := exa_v h1
  have evj : (Term.static K n d).eval args s none [j] s = some (.ref x) := ev
  have q := (elem_in eb evj (Term.index_eval j) A.1).2
  rw [show j.toInt32 = Int32.ofNat j from rfl, Int32.toNatClampNeg_ofNat_of_lt (by omega)] at q
  exact ⟨b, q, exa_at eb h1⟩
theorem own_elemI {i k : Int32} (ev : t.eval args s none [] s = some (.ref x)) (A : Arr s s.heap x cl ty) (h : (Cond.eq (.elem t (.int i)) (.int k)).value args s none s [] = some true) : ¬ (i < 0 ∨ cl.slots.size ≤ i.toNatClampNeg) ∧ cl.slots[i.toNatClampNeg]? = some (.int k) :=
  elem_in (own_evI h) ev (Term.int_eval i) A.1
end OwnWords

theorem own_d_jdk_128_16_0 : decode jdk_128_method_16_code 0 = .ok (.dload_n 0, 1) := by decide +kernel
theorem own_d_jdk_128_16_1 : decode jdk_128_method_16_code 1 = .ok (.ldc2_w 58, 3) := by decide +kernel
theorem own_d_jdk_128_16_4 : decode jdk_128_method_16_code 4 = .ok (.dconst 1, 1) := by decide +kernel
theorem own_d_jdk_128_16_5 : decode jdk_128_method_16_code 5 = .ok (.dconst 1, 1) := by decide +kernel
theorem own_d_jdk_128_16_6 : decode jdk_128_method_16_code 6 = .ok (.invokestatic 60, 3) := by decide +kernel
theorem own_d_jdk_128_16_9 : decode jdk_128_method_16_code 9 = .ok (.dreturn, 1) := by decide +kernel
theorem own_d_jdk_128_18_0 : decode jdk_128_method_18_code 0 = .ok (.dload_n 0, 1) := by decide +kernel
theorem own_d_jdk_128_18_1 : decode jdk_128_method_18_code 1 = .ok (.invokestatic 66, 3) := by decide +kernel
theorem own_d_jdk_128_18_4 : decode jdk_128_method_18_code 4 = .ok (.istore 8, 2) := by decide +kernel
theorem own_d_jdk_128_18_6 : decode jdk_128_method_18_code 6 = .ok (.iload 8, 2) := by decide +kernel
theorem own_d_jdk_128_18_8 : decode jdk_128_method_18_code 8 = .ok (.ifCond .ge 26, 3) := by decide +kernel
theorem own_d_jdk_128_18_11 : decode jdk_128_method_18_code 11 = .ok (.dload_n 0, 1) := by decide +kernel
theorem own_d_jdk_128_18_12 : decode jdk_128_method_18_code 12 = .ok (.dconst 0, 1) := by decide +kernel
theorem own_d_jdk_128_18_13 : decode jdk_128_method_18_code 13 = .ok (.dcmp .l, 1) := by decide +kernel
theorem own_d_jdk_128_18_14 : decode jdk_128_method_18_code 14 = .ok (.ifCond .ne 7, 3) := by decide +kernel
theorem own_d_jdk_128_18_17 : decode jdk_128_method_18_code 17 = .ok (.dload_n 0, 1) := by decide +kernel
theorem own_d_jdk_128_18_18 : decode jdk_128_method_18_code 18 = .ok (.goto 15, 3) := by decide +kernel
theorem own_d_jdk_128_18_33 : decode jdk_128_method_18_code 33 = .ok (.dreturn, 1) := by decide +kernel
theorem own_d_jdk_128_18_34 : decode jdk_128_method_18_code 34 = .ok (.iload 8, 2) := by decide +kernel
theorem own_d_jdk_128_18_36 : decode jdk_128_method_18_code 36 = .ok (.bipush 52, 2) := by decide +kernel
theorem own_d_jdk_128_18_38 : decode jdk_128_method_18_code 38 = .ok (.if_icmp .lt 5, 3) := by decide +kernel
theorem own_d_jdk_128_18_43 : decode jdk_128_method_18_code 43 = .ok (.getstatic 70, 3) := by decide +kernel
theorem own_d_jdk_128_18_46 : decode jdk_128_method_18_code 46 = .ok (.ifCond .ne 23, 3) := by decide +kernel
theorem own_d_jdk_128_18_69 : decode jdk_128_method_18_code 69 = .ok (.dload_n 0, 1) := by decide +kernel
theorem own_d_jdk_128_18_70 : decode jdk_128_method_18_code 70 = .ok (.invokestatic 77, 3) := by decide +kernel
theorem own_d_jdk_128_18_73 : decode jdk_128_method_18_code 73 = .ok (.lstore 9, 2) := by decide +kernel
theorem own_d_jdk_128_18_75 : decode jdk_128_method_18_code 75 = .ok (.ldc2_w 85, 3) := by decide +kernel
theorem own_d_jdk_128_18_78 : decode jdk_128_method_18_code 78 = .ok (.iload 8, 2) := by decide +kernel
theorem own_d_jdk_128_18_80 : decode jdk_128_method_18_code 80 = .ok (.lshr, 1) := by decide +kernel
theorem own_d_jdk_128_18_81 : decode jdk_128_method_18_code 81 = .ok (.lstore 11, 2) := by decide +kernel
theorem own_d_jdk_128_18_83 : decode jdk_128_method_18_code 83 = .ok (.lload 11, 2) := by decide +kernel
theorem own_d_jdk_128_18_85 : decode jdk_128_method_18_code 85 = .ok (.lload 9, 2) := by decide +kernel
theorem own_d_jdk_128_18_87 : decode jdk_128_method_18_code 87 = .ok (.land, 1) := by decide +kernel
theorem own_d_jdk_128_18_88 : decode jdk_128_method_18_code 88 = .ok (.lconst 0, 1) := by decide +kernel
theorem own_d_jdk_128_18_89 : decode jdk_128_method_18_code 89 = .ok (.lcmp, 1) := by decide +kernel
theorem own_d_jdk_128_18_90 : decode jdk_128_method_18_code 90 = .ok (.ifCond .ne 5, 3) := by decide +kernel
theorem own_d_jdk_128_18_93 : decode jdk_128_method_18_code 93 = .ok (.dload_n 0, 1) := by decide +kernel
theorem own_d_jdk_128_18_94 : decode jdk_128_method_18_code 94 = .ok (.dreturn, 1) := by decide +kernel
theorem own_d_jdk_128_18_95 : decode jdk_128_method_18_code 95 = .ok (.lload 9, 2) := by decide +kernel
theorem own_d_jdk_128_18_97 : decode jdk_128_method_18_code 97 = .ok (.lload 11, 2) := by decide +kernel
theorem own_d_jdk_128_18_99 : decode jdk_128_method_18_code 99 = .ok (.ldc2_w 87, 3) := by decide +kernel
theorem own_d_jdk_128_18_102 : decode jdk_128_method_18_code 102 = .ok (.lxor, 1) := by decide +kernel
theorem own_d_jdk_128_18_103 : decode jdk_128_method_18_code 103 = .ok (.land, 1) := by decide +kernel
theorem own_d_jdk_128_18_104 : decode jdk_128_method_18_code 104 = .ok (.invokestatic 89, 3) := by decide +kernel
theorem own_d_jdk_128_18_107 : decode jdk_128_method_18_code 107 = .ok (.dstore 13, 2) := by decide +kernel
theorem own_d_jdk_128_18_109 : decode jdk_128_method_18_code 109 = .ok (.dload 6, 2) := by decide +kernel
theorem own_d_jdk_128_18_111 : decode jdk_128_method_18_code 111 = .ok (.dload_n 0, 1) := by decide +kernel
theorem own_d_jdk_128_18_112 : decode jdk_128_method_18_code 112 = .ok (.dmul, 1) := by decide +kernel
theorem own_d_jdk_128_18_113 : decode jdk_128_method_18_code 113 = .ok (.dconst 0, 1) := by decide +kernel
theorem own_d_jdk_128_18_114 : decode jdk_128_method_18_code 114 = .ok (.dcmp .l, 1) := by decide +kernel
theorem own_d_jdk_128_18_115 : decode jdk_128_method_18_code 115 = .ok (.ifCond .le 10, 3) := by decide +kernel
theorem own_d_jdk_128_18_118 : decode jdk_128_method_18_code 118 = .ok (.dload 13, 2) := by decide +kernel
theorem own_d_jdk_128_18_120 : decode jdk_128_method_18_code 120 = .ok (.dload 6, 2) := by decide +kernel
theorem own_d_jdk_128_18_122 : decode jdk_128_method_18_code 122 = .ok (.dadd, 1) := by decide +kernel
theorem own_d_jdk_128_18_123 : decode jdk_128_method_18_code 123 = .ok (.dstore 13, 2) := by decide +kernel
theorem own_d_jdk_128_18_125 : decode jdk_128_method_18_code 125 = .ok (.dload 13, 2) := by decide +kernel
theorem own_d_jdk_128_18_127 : decode jdk_128_method_18_code 127 = .ok (.dreturn, 1) := by decide +kernel
theorem own_d_jdk_29_66_0 : decode jdk_29_method_66_code 0 = .ok (.lload_n 0, 1) := by decide +kernel
theorem own_d_jdk_29_66_1 : decode jdk_29_method_66_code 1 = .ok (.lload_n 2, 1) := by decide +kernel
theorem own_d_jdk_29_66_2 : decode jdk_29_method_66_code 2 = .ok (.lcmp, 1) := by decide +kernel
theorem own_d_jdk_29_66_3 : decode jdk_29_method_66_code 3 = .ok (.ifCond .lt 7, 3) := by decide +kernel
theorem own_d_jdk_29_66_6 : decode jdk_29_method_66_code 6 = .ok (.lload_n 0, 1) := by decide +kernel
theorem own_d_jdk_29_66_7 : decode jdk_29_method_66_code 7 = .ok (.goto 4, 3) := by decide +kernel
theorem own_d_jdk_29_66_10 : decode jdk_29_method_66_code 10 = .ok (.lload_n 2, 1) := by decide +kernel
theorem own_d_jdk_29_66_11 : decode jdk_29_method_66_code 11 = .ok (.lreturn, 1) := by decide +kernel
theorem own_d_jdk_29_70_0 : decode jdk_29_method_70_code 0 = .ok (.lload_n 0, 1) := by decide +kernel
theorem own_d_jdk_29_70_1 : decode jdk_29_method_70_code 1 = .ok (.lload_n 2, 1) := by decide +kernel
theorem own_d_jdk_29_70_2 : decode jdk_29_method_70_code 2 = .ok (.lcmp, 1) := by decide +kernel
theorem own_d_jdk_29_70_3 : decode jdk_29_method_70_code 3 = .ok (.ifCond .gt 7, 3) := by decide +kernel
theorem own_d_jdk_29_70_6 : decode jdk_29_method_70_code 6 = .ok (.lload_n 0, 1) := by decide +kernel
theorem own_d_jdk_29_70_7 : decode jdk_29_method_70_code 7 = .ok (.goto 4, 3) := by decide +kernel
theorem own_d_jdk_29_70_10 : decode jdk_29_method_70_code 10 = .ok (.lload_n 2, 1) := by decide +kernel
theorem own_d_jdk_29_70_11 : decode jdk_29_method_70_code 11 = .ok (.lreturn, 1) := by decide +kernel
theorem own_d_jdk_29_92_0 : decode jdk_29_method_92_code 0 = .ok (.dload_n 0, 1) := by decide +kernel
theorem own_d_jdk_29_92_1 : decode jdk_29_method_92_code 1 = .ok (.invokestatic 79, 3) := by decide +kernel
theorem own_d_jdk_29_92_4 : decode jdk_29_method_92_code 4 = .ok (.ldc2_w 87, 3) := by decide +kernel
theorem own_d_jdk_29_92_7 : decode jdk_29_method_92_code 7 = .ok (.land, 1) := by decide +kernel
theorem own_d_jdk_29_92_8 : decode jdk_29_method_92_code 8 = .ok (.bipush 52, 2) := by decide +kernel
theorem own_d_jdk_29_92_10 : decode jdk_29_method_92_code 10 = .ok (.lshr, 1) := by decide +kernel
theorem own_d_jdk_29_92_11 : decode jdk_29_method_92_code 11 = .ok (.ldc2_w 322, 3) := by decide +kernel
theorem own_d_jdk_29_92_14 : decode jdk_29_method_92_code 14 = .ok (.lsub, 1) := by decide +kernel
theorem own_d_jdk_29_92_15 : decode jdk_29_method_92_code 15 = .ok (.l2i, 1) := by decide +kernel
theorem own_d_jdk_29_92_16 : decode jdk_29_method_92_code 16 = .ok (.ireturn, 1) := by decide +kernel
theorem own_d_jdk_33_47_0 : decode jdk_33_method_47_code 0 = .ok (.iload_n 0, 1) := by decide +kernel
theorem own_d_jdk_33_47_1 : decode jdk_33_method_47_code 1 = .ok (.ifCond .gt 14, 3) := by decide +kernel
theorem own_d_jdk_33_47_4 : decode jdk_33_method_47_code 4 = .ok (.iload_n 0, 1) := by decide +kernel
theorem own_d_jdk_33_47_5 : decode jdk_33_method_47_code 5 = .ok (.ifCond .ne 8, 3) := by decide +kernel
theorem own_d_jdk_33_47_8 : decode jdk_33_method_47_code 8 = .ok (.bipush 32, 2) := by decide +kernel
theorem own_d_jdk_33_47_10 : decode jdk_33_method_47_code 10 = .ok (.goto 4, 3) := by decide +kernel
theorem own_d_jdk_33_47_13 : decode jdk_33_method_47_code 13 = .ok (.iconst 0, 1) := by decide +kernel
theorem own_d_jdk_33_47_14 : decode jdk_33_method_47_code 14 = .ok (.ireturn, 1) := by decide +kernel
theorem own_d_jdk_33_47_15 : decode jdk_33_method_47_code 15 = .ok (.bipush 31, 2) := by decide +kernel
theorem own_d_jdk_33_47_17 : decode jdk_33_method_47_code 17 = .ok (.istore_n 1, 1) := by decide +kernel
theorem own_d_jdk_33_47_18 : decode jdk_33_method_47_code 18 = .ok (.iload_n 0, 1) := by decide +kernel
theorem own_d_jdk_33_47_19 : decode jdk_33_method_47_code 19 = .ok (.ldc_w 264, 3) := by decide +kernel
theorem own_d_jdk_33_47_22 : decode jdk_33_method_47_code 22 = .ok (.if_icmp .lt 11, 3) := by decide +kernel
theorem own_d_jdk_33_47_25 : decode jdk_33_method_47_code 25 = .ok (.iinc 1 (-16), 3) := by decide +kernel
theorem own_d_jdk_33_47_28 : decode jdk_33_method_47_code 28 = .ok (.iload_n 0, 1) := by decide +kernel
theorem own_d_jdk_33_47_29 : decode jdk_33_method_47_code 29 = .ok (.bipush 16, 2) := by decide +kernel
theorem own_d_jdk_33_47_31 : decode jdk_33_method_47_code 31 = .ok (.iushr, 1) := by decide +kernel
theorem own_d_jdk_33_47_32 : decode jdk_33_method_47_code 32 = .ok (.istore_n 0, 1) := by decide +kernel
theorem own_d_jdk_33_47_33 : decode jdk_33_method_47_code 33 = .ok (.iload_n 0, 1) := by decide +kernel
theorem own_d_jdk_33_47_34 : decode jdk_33_method_47_code 34 = .ok (.sipush 256, 3) := by decide +kernel
theorem own_d_jdk_33_47_37 : decode jdk_33_method_47_code 37 = .ok (.if_icmp .lt 11, 3) := by decide +kernel
theorem own_d_jdk_33_47_40 : decode jdk_33_method_47_code 40 = .ok (.iinc 1 (-8), 3) := by decide +kernel
theorem own_d_jdk_33_47_43 : decode jdk_33_method_47_code 43 = .ok (.iload_n 0, 1) := by decide +kernel
theorem own_d_jdk_33_47_44 : decode jdk_33_method_47_code 44 = .ok (.bipush 8, 2) := by decide +kernel
theorem own_d_jdk_33_47_46 : decode jdk_33_method_47_code 46 = .ok (.iushr, 1) := by decide +kernel
theorem own_d_jdk_33_47_47 : decode jdk_33_method_47_code 47 = .ok (.istore_n 0, 1) := by decide +kernel
theorem own_d_jdk_33_47_48 : decode jdk_33_method_47_code 48 = .ok (.iload_n 0, 1) := by decide +kernel
theorem own_d_jdk_33_47_49 : decode jdk_33_method_47_code 49 = .ok (.bipush 16, 2) := by decide +kernel
theorem own_d_jdk_33_47_51 : decode jdk_33_method_47_code 51 = .ok (.if_icmp .lt 10, 3) := by decide +kernel
theorem own_d_jdk_33_47_54 : decode jdk_33_method_47_code 54 = .ok (.iinc 1 (-4), 3) := by decide +kernel
theorem own_d_jdk_33_47_57 : decode jdk_33_method_47_code 57 = .ok (.iload_n 0, 1) := by decide +kernel
theorem own_d_jdk_33_47_58 : decode jdk_33_method_47_code 58 = .ok (.iconst 4, 1) := by decide +kernel
theorem own_d_jdk_33_47_59 : decode jdk_33_method_47_code 59 = .ok (.iushr, 1) := by decide +kernel
theorem own_d_jdk_33_47_60 : decode jdk_33_method_47_code 60 = .ok (.istore_n 0, 1) := by decide +kernel
theorem own_d_jdk_33_47_61 : decode jdk_33_method_47_code 61 = .ok (.iload_n 0, 1) := by decide +kernel
theorem own_d_jdk_33_47_62 : decode jdk_33_method_47_code 62 = .ok (.iconst 4, 1) := by decide +kernel
theorem own_d_jdk_33_47_63 : decode jdk_33_method_47_code 63 = .ok (.if_icmp .lt 10, 3) := by decide +kernel
theorem own_d_jdk_33_47_66 : decode jdk_33_method_47_code 66 = .ok (.iinc 1 (-2), 3) := by decide +kernel
theorem own_d_jdk_33_47_69 : decode jdk_33_method_47_code 69 = .ok (.iload_n 0, 1) := by decide +kernel
theorem own_d_jdk_33_47_70 : decode jdk_33_method_47_code 70 = .ok (.iconst 2, 1) := by decide +kernel
theorem own_d_jdk_33_47_71 : decode jdk_33_method_47_code 71 = .ok (.iushr, 1) := by decide +kernel
theorem own_d_jdk_33_47_72 : decode jdk_33_method_47_code 72 = .ok (.istore_n 0, 1) := by decide +kernel
theorem own_d_jdk_33_47_73 : decode jdk_33_method_47_code 73 = .ok (.iload_n 1, 1) := by decide +kernel
theorem own_d_jdk_33_47_74 : decode jdk_33_method_47_code 74 = .ok (.iload_n 0, 1) := by decide +kernel
theorem own_d_jdk_33_47_75 : decode jdk_33_method_47_code 75 = .ok (.iconst 1, 1) := by decide +kernel
theorem own_d_jdk_33_47_76 : decode jdk_33_method_47_code 76 = .ok (.iushr, 1) := by decide +kernel
theorem own_d_jdk_33_47_77 : decode jdk_33_method_47_code 77 = .ok (.isub, 1) := by decide +kernel
theorem own_d_jdk_33_47_78 : decode jdk_33_method_47_code 78 = .ok (.ireturn, 1) := by decide +kernel
theorem own_d_jdk_35_48_0 : decode jdk_35_method_48_code 0 = .ok (.lload_n 0, 1) := by decide +kernel
theorem own_d_jdk_35_48_1 : decode jdk_35_method_48_code 1 = .ok (.bipush 32, 2) := by decide +kernel
theorem own_d_jdk_35_48_3 : decode jdk_35_method_48_code 3 = .ok (.lushr, 1) := by decide +kernel
theorem own_d_jdk_35_48_4 : decode jdk_35_method_48_code 4 = .ok (.l2i, 1) := by decide +kernel
theorem own_d_jdk_35_48_5 : decode jdk_35_method_48_code 5 = .ok (.istore_n 2, 1) := by decide +kernel
theorem own_d_jdk_35_48_6 : decode jdk_35_method_48_code 6 = .ok (.iload_n 2, 1) := by decide +kernel
theorem own_d_jdk_35_48_7 : decode jdk_35_method_48_code 7 = .ok (.ifCond .ne 14, 3) := by decide +kernel
theorem own_d_jdk_35_48_10 : decode jdk_35_method_48_code 10 = .ok (.bipush 32, 2) := by decide +kernel
theorem own_d_jdk_35_48_12 : decode jdk_35_method_48_code 12 = .ok (.lload_n 0, 1) := by decide +kernel
theorem own_d_jdk_35_48_13 : decode jdk_35_method_48_code 13 = .ok (.l2i, 1) := by decide +kernel
theorem own_d_jdk_35_48_14 : decode jdk_35_method_48_code 14 = .ok (.invokestatic 308, 3) := by decide +kernel
theorem own_d_jdk_35_48_17 : decode jdk_35_method_48_code 17 = .ok (.iadd, 1) := by decide +kernel
theorem own_d_jdk_35_48_18 : decode jdk_35_method_48_code 18 = .ok (.goto 7, 3) := by decide +kernel
theorem own_d_jdk_35_48_21 : decode jdk_35_method_48_code 21 = .ok (.iload_n 2, 1) := by decide +kernel
theorem own_d_jdk_35_48_22 : decode jdk_35_method_48_code 22 = .ok (.invokestatic 308, 3) := by decide +kernel
theorem own_d_jdk_35_48_25 : decode jdk_35_method_48_code 25 = .ok (.ireturn, 1) := by decide +kernel
theorem own_d_prog_5_1_0 : decode prog_5_method_1_code 0 = .ok (.aload_n 0, 1) := by decide +kernel
theorem own_d_prog_5_1_1 : decode prog_5_method_1_code 1 = .ok (.invokespecial 1, 3) := by decide +kernel
theorem own_d_prog_5_1_4 : decode prog_5_method_1_code 4 = .ok (.aload_n 0, 1) := by decide +kernel
theorem own_d_prog_5_1_5 : decode prog_5_method_1_code 5 = .ok (.sipush 7296, 3) := by decide +kernel
theorem own_d_prog_5_1_8 : decode prog_5_method_1_code 8 = .ok (.newarray .long, 2) := by decide +kernel
theorem own_d_prog_5_1_10 : decode prog_5_method_1_code 10 = .ok (.putfield 11, 3) := by decide +kernel
theorem own_d_prog_5_1_13 : decode prog_5_method_1_code 13 = .ok (.return_, 1) := by decide +kernel
theorem own_d_prog_5_2_0 : decode prog_5_method_2_code 0 = .ok (.aload_n 0, 1) := by decide +kernel
theorem own_d_prog_5_2_1 : decode prog_5_method_2_code 1 = .ok (.getfield 11, 3) := by decide +kernel
theorem own_d_prog_5_2_4 : decode prog_5_method_2_code 4 = .ok (.lconst 0, 1) := by decide +kernel
theorem own_d_prog_5_2_5 : decode prog_5_method_2_code 5 = .ok (.lload_n 1, 1) := by decide +kernel
theorem own_d_prog_5_2_6 : decode prog_5_method_2_code 6 = .ok (.invokestatic 15, 3) := by decide +kernel
theorem own_d_prog_5_2_9 : decode prog_5_method_2_code 9 = .ok (.invokestatic 21, 3) := by decide +kernel
theorem own_d_prog_5_2_12 : decode prog_5_method_2_code 12 = .ok (.dup2, 1) := by decide +kernel
theorem own_d_prog_5_2_13 : decode prog_5_method_2_code 13 = .ok (.laload, 1) := by decide +kernel
theorem own_d_prog_5_2_14 : decode prog_5_method_2_code 14 = .ok (.lconst 1, 1) := by decide +kernel
theorem own_d_prog_5_2_15 : decode prog_5_method_2_code 15 = .ok (.ladd, 1) := by decide +kernel
theorem own_d_prog_5_2_16 : decode prog_5_method_2_code 16 = .ok (.lastore, 1) := by decide +kernel
theorem own_d_prog_5_2_17 : decode prog_5_method_2_code 17 = .ok (.aload_n 0, 1) := by decide +kernel
theorem own_d_prog_5_2_18 : decode prog_5_method_2_code 18 = .ok (.dup, 1) := by decide +kernel
theorem own_d_prog_5_2_19 : decode prog_5_method_2_code 19 = .ok (.getfield 25, 3) := by decide +kernel
theorem own_d_prog_5_2_22 : decode prog_5_method_2_code 22 = .ok (.lconst 1, 1) := by decide +kernel
theorem own_d_prog_5_2_23 : decode prog_5_method_2_code 23 = .ok (.ladd, 1) := by decide +kernel
theorem own_d_prog_5_2_24 : decode prog_5_method_2_code 24 = .ok (.putfield 25, 3) := by decide +kernel
theorem own_d_prog_5_2_27 : decode prog_5_method_2_code 27 = .ok (.return_, 1) := by decide +kernel
theorem own_d_prog_5_3_0 : decode prog_5_method_3_code 0 = .ok (.iconst 0, 1) := by decide +kernel
theorem own_d_prog_5_3_1 : decode prog_5_method_3_code 1 = .ok (.istore_n 2, 1) := by decide +kernel
theorem own_d_prog_5_3_2 : decode prog_5_method_3_code 2 = .ok (.iload_n 2, 1) := by decide +kernel
theorem own_d_prog_5_3_3 : decode prog_5_method_3_code 3 = .ok (.aload_n 0, 1) := by decide +kernel
theorem own_d_prog_5_3_4 : decode prog_5_method_3_code 4 = .ok (.getfield 11, 3) := by decide +kernel
theorem own_d_prog_5_3_7 : decode prog_5_method_3_code 7 = .ok (.arraylength, 1) := by decide +kernel
theorem own_d_prog_5_3_8 : decode prog_5_method_3_code 8 = .ok (.if_icmp .ge 24, 3) := by decide +kernel
theorem own_d_prog_5_3_11 : decode prog_5_method_3_code 11 = .ok (.aload_n 0, 1) := by decide +kernel
theorem own_d_prog_5_3_12 : decode prog_5_method_3_code 12 = .ok (.getfield 11, 3) := by decide +kernel
theorem own_d_prog_5_3_15 : decode prog_5_method_3_code 15 = .ok (.iload_n 2, 1) := by decide +kernel
theorem own_d_prog_5_3_16 : decode prog_5_method_3_code 16 = .ok (.dup2, 1) := by decide +kernel
theorem own_d_prog_5_3_17 : decode prog_5_method_3_code 17 = .ok (.laload, 1) := by decide +kernel
theorem own_d_prog_5_3_18 : decode prog_5_method_3_code 18 = .ok (.aload_n 1, 1) := by decide +kernel
theorem own_d_prog_5_3_19 : decode prog_5_method_3_code 19 = .ok (.getfield 11, 3) := by decide +kernel
theorem own_d_prog_5_3_22 : decode prog_5_method_3_code 22 = .ok (.iload_n 2, 1) := by decide +kernel
theorem own_d_prog_5_3_23 : decode prog_5_method_3_code 23 = .ok (.laload, 1) := by decide +kernel
theorem own_d_prog_5_3_24 : decode prog_5_method_3_code 24 = .ok (.ladd, 1) := by decide +kernel
theorem own_d_prog_5_3_25 : decode prog_5_method_3_code 25 = .ok (.lastore, 1) := by decide +kernel
theorem own_d_prog_5_3_26 : decode prog_5_method_3_code 26 = .ok (.iinc 2 1, 3) := by decide +kernel
theorem own_d_prog_5_3_29 : decode prog_5_method_3_code 29 = .ok (.goto (-27), 3) := by decide +kernel
theorem own_d_prog_5_3_32 : decode prog_5_method_3_code 32 = .ok (.aload_n 0, 1) := by decide +kernel
theorem own_d_prog_5_3_33 : decode prog_5_method_3_code 33 = .ok (.dup, 1) := by decide +kernel
theorem own_d_prog_5_3_34 : decode prog_5_method_3_code 34 = .ok (.getfield 25, 3) := by decide +kernel
theorem own_d_prog_5_3_37 : decode prog_5_method_3_code 37 = .ok (.aload_n 1, 1) := by decide +kernel
theorem own_d_prog_5_3_38 : decode prog_5_method_3_code 38 = .ok (.getfield 25, 3) := by decide +kernel
theorem own_d_prog_5_3_41 : decode prog_5_method_3_code 41 = .ok (.ladd, 1) := by decide +kernel
theorem own_d_prog_5_3_42 : decode prog_5_method_3_code 42 = .ok (.putfield 25, 3) := by decide +kernel
theorem own_d_prog_5_3_45 : decode prog_5_method_3_code 45 = .ok (.return_, 1) := by decide +kernel
theorem own_d_prog_5_4_0 : decode prog_5_method_4_code 0 = .ok (.aload_n 0, 1) := by decide +kernel
theorem own_d_prog_5_4_1 : decode prog_5_method_4_code 1 = .ok (.getfield 25, 3) := by decide +kernel
theorem own_d_prog_5_4_4 : decode prog_5_method_4_code 4 = .ok (.lreturn, 1) := by decide +kernel
theorem own_d_prog_5_5_0 : decode prog_5_method_5_code 0 = .ok (.lconst 1, 1) := by decide +kernel
theorem own_d_prog_5_5_1 : decode prog_5_method_5_code 1 = .ok (.dload_n 1, 1) := by decide +kernel
theorem own_d_prog_5_5_2 : decode prog_5_method_5_code 2 = .ok (.aload_n 0, 1) := by decide +kernel
theorem own_d_prog_5_5_3 : decode prog_5_method_5_code 3 = .ok (.getfield 25, 3) := by decide +kernel
theorem own_d_prog_5_5_6 : decode prog_5_method_5_code 6 = .ok (.l2d, 1) := by decide +kernel
theorem own_d_prog_5_5_7 : decode prog_5_method_5_code 7 = .ok (.dmul, 1) := by decide +kernel
theorem own_d_prog_5_5_8 : decode prog_5_method_5_code 8 = .ok (.invokestatic 29, 3) := by decide +kernel
theorem own_d_prog_5_5_11 : decode prog_5_method_5_code 11 = .ok (.d2l, 1) := by decide +kernel
theorem own_d_prog_5_5_12 : decode prog_5_method_5_code 12 = .ok (.invokestatic 15, 3) := by decide +kernel
theorem own_d_prog_5_5_15 : decode prog_5_method_5_code 15 = .ok (.lstore_n 3, 1) := by decide +kernel
theorem own_d_prog_5_5_16 : decode prog_5_method_5_code 16 = .ok (.lconst 0, 1) := by decide +kernel
theorem own_d_prog_5_5_17 : decode prog_5_method_5_code 17 = .ok (.lstore 5, 2) := by decide +kernel
theorem own_d_prog_5_5_19 : decode prog_5_method_5_code 19 = .ok (.iconst 0, 1) := by decide +kernel
theorem own_d_prog_5_5_20 : decode prog_5_method_5_code 20 = .ok (.istore 7, 2) := by decide +kernel
theorem own_d_prog_5_5_22 : decode prog_5_method_5_code 22 = .ok (.aload_n 0, 1) := by decide +kernel
theorem own_d_prog_5_5_23 : decode prog_5_method_5_code 23 = .ok (.getfield 25, 3) := by decide +kernel
theorem own_d_prog_5_5_26 : decode prog_5_method_5_code 26 = .ok (.lconst 0, 1) := by decide +kernel
theorem own_d_prog_5_5_27 : decode prog_5_method_5_code 27 = .ok (.lcmp, 1) := by decide +kernel
theorem own_d_prog_5_5_28 : decode prog_5_method_5_code 28 = .ok (.ifCond .le 36, 3) := by decide +kernel
theorem own_d_prog_5_5_31 : decode prog_5_method_5_code 31 = .ok (.lload 5, 2) := by decide +kernel
theorem own_d_prog_5_5_33 : decode prog_5_method_5_code 33 = .ok (.aload_n 0, 1) := by decide +kernel
theorem own_d_prog_5_5_34 : decode prog_5_method_5_code 34 = .ok (.getfield 11, 3) := by decide +kernel
theorem own_d_prog_5_5_37 : decode prog_5_method_5_code 37 = .ok (.iload 7, 2) := by decide +kernel
theorem own_d_prog_5_5_39 : decode prog_5_method_5_code 39 = .ok (.laload, 1) := by decide +kernel
theorem own_d_prog_5_5_40 : decode prog_5_method_5_code 40 = .ok (.ladd, 1) := by decide +kernel
theorem own_d_prog_5_5_41 : decode prog_5_method_5_code 41 = .ok (.lload_n 3, 1) := by decide +kernel
theorem own_d_prog_5_5_42 : decode prog_5_method_5_code 42 = .ok (.lcmp, 1) := by decide +kernel
theorem own_d_prog_5_5_43 : decode prog_5_method_5_code 43 = .ok (.ifCond .ge 21, 3) := by decide +kernel
theorem own_d_prog_5_5_46 : decode prog_5_method_5_code 46 = .ok (.lload 5, 2) := by decide +kernel
theorem own_d_prog_5_5_48 : decode prog_5_method_5_code 48 = .ok (.aload_n 0, 1) := by decide +kernel
theorem own_d_prog_5_5_49 : decode prog_5_method_5_code 49 = .ok (.getfield 11, 3) := by decide +kernel
theorem own_d_prog_5_5_52 : decode prog_5_method_5_code 52 = .ok (.iload 7, 2) := by decide +kernel
theorem own_d_prog_5_5_54 : decode prog_5_method_5_code 54 = .ok (.laload, 1) := by decide +kernel
theorem own_d_prog_5_5_55 : decode prog_5_method_5_code 55 = .ok (.ladd, 1) := by decide +kernel
theorem own_d_prog_5_5_56 : decode prog_5_method_5_code 56 = .ok (.lstore 5, 2) := by decide +kernel
theorem own_d_prog_5_5_58 : decode prog_5_method_5_code 58 = .ok (.iinc 7 1, 3) := by decide +kernel
theorem own_d_prog_5_5_61 : decode prog_5_method_5_code 61 = .ok (.goto (-39), 3) := by decide +kernel
theorem own_d_prog_5_5_64 : decode prog_5_method_5_code 64 = .ok (.aload_n 0, 1) := by decide +kernel
theorem own_d_prog_5_5_65 : decode prog_5_method_5_code 65 = .ok (.getfield 25, 3) := by decide +kernel
theorem own_d_prog_5_5_68 : decode prog_5_method_5_code 68 = .ok (.lconst 0, 1) := by decide +kernel
theorem own_d_prog_5_5_69 : decode prog_5_method_5_code 69 = .ok (.lcmp, 1) := by decide +kernel
theorem own_d_prog_5_5_70 : decode prog_5_method_5_code 70 = .ok (.ifCond .le 11, 3) := by decide +kernel
theorem own_d_prog_5_5_73 : decode prog_5_method_5_code 73 = .ok (.iload 7, 2) := by decide +kernel
theorem own_d_prog_5_5_75 : decode prog_5_method_5_code 75 = .ok (.invokestatic 33, 3) := by decide +kernel
theorem own_d_prog_5_5_78 : decode prog_5_method_5_code 78 = .ok (.goto 4, 3) := by decide +kernel
theorem own_d_prog_5_5_82 : decode prog_5_method_5_code 82 = .ok (.lreturn, 1) := by decide +kernel
theorem own_d_prog_5_6_0 : decode prog_5_method_6_code 0 = .ok (.lload_n 0, 1) := by decide +kernel
theorem own_d_prog_5_6_1 : decode prog_5_method_6_code 1 = .ok (.ldc2_w 37, 3) := by decide +kernel
theorem own_d_prog_5_6_4 : decode prog_5_method_6_code 4 = .ok (.lcmp, 1) := by decide +kernel
theorem own_d_prog_5_6_5 : decode prog_5_method_6_code 5 = .ok (.ifCond .ge 9, 3) := by decide +kernel
theorem own_d_prog_5_6_8 : decode prog_5_method_6_code 8 = .ok (.lload_n 0, 1) := by decide +kernel
theorem own_d_prog_5_6_9 : decode prog_5_method_6_code 9 = .ok (.l2i, 1) := by decide +kernel
theorem own_d_prog_5_6_10 : decode prog_5_method_6_code 10 = .ok (.istore_n 2, 1) := by decide +kernel
theorem own_d_prog_5_6_11 : decode prog_5_method_6_code 11 = .ok (.goto 42, 3) := by decide +kernel
theorem own_d_prog_5_6_14 : decode prog_5_method_6_code 14 = .ok (.bipush 63, 2) := by decide +kernel
theorem own_d_prog_5_6_16 : decode prog_5_method_6_code 16 = .ok (.lload_n 0, 1) := by decide +kernel
theorem own_d_prog_5_6_17 : decode prog_5_method_6_code 17 = .ok (.invokestatic 39, 3) := by decide +kernel
theorem own_d_prog_5_6_20 : decode prog_5_method_6_code 20 = .ok (.isub, 1) := by decide +kernel
theorem own_d_prog_5_6_21 : decode prog_5_method_6_code 21 = .ok (.istore_n 3, 1) := by decide +kernel
theorem own_d_prog_5_6_22 : decode prog_5_method_6_code 22 = .ok (.iload_n 3, 1) := by decide +kernel
theorem own_d_prog_5_6_23 : decode prog_5_method_6_code 23 = .ok (.bipush 8, 2) := by decide +kernel
theorem own_d_prog_5_6_25 : decode prog_5_method_6_code 25 = .ok (.isub, 1) := by decide +kernel
theorem own_d_prog_5_6_26 : decode prog_5_method_6_code 26 = .ok (.iconst 1, 1) := by decide +kernel
theorem own_d_prog_5_6_27 : decode prog_5_method_6_code 27 = .ok (.iadd, 1) := by decide +kernel
theorem own_d_prog_5_6_28 : decode prog_5_method_6_code 28 = .ok (.istore 4, 2) := by decide +kernel
theorem own_d_prog_5_6_30 : decode prog_5_method_6_code 30 = .ok (.sipush 256, 3) := by decide +kernel
theorem own_d_prog_5_6_33 : decode prog_5_method_6_code 33 = .ok (.iload_n 3, 1) := by decide +kernel
theorem own_d_prog_5_6_34 : decode prog_5_method_6_code 34 = .ok (.bipush 8, 2) := by decide +kernel
theorem own_d_prog_5_6_36 : decode prog_5_method_6_code 36 = .ok (.isub, 1) := by decide +kernel
theorem own_d_prog_5_6_37 : decode prog_5_method_6_code 37 = .ok (.sipush 128, 3) := by decide +kernel
theorem own_d_prog_5_6_40 : decode prog_5_method_6_code 40 = .ok (.imul, 1) := by decide +kernel
theorem own_d_prog_5_6_41 : decode prog_5_method_6_code 41 = .ok (.iadd, 1) := by decide +kernel
theorem own_d_prog_5_6_42 : decode prog_5_method_6_code 42 = .ok (.lload_n 0, 1) := by decide +kernel
theorem own_d_prog_5_6_43 : decode prog_5_method_6_code 43 = .ok (.iload 4, 2) := by decide +kernel
theorem own_d_prog_5_6_45 : decode prog_5_method_6_code 45 = .ok (.lushr, 1) := by decide +kernel
theorem own_d_prog_5_6_46 : decode prog_5_method_6_code 46 = .ok (.l2i, 1) := by decide +kernel
theorem own_d_prog_5_6_47 : decode prog_5_method_6_code 47 = .ok (.iadd, 1) := by decide +kernel
theorem own_d_prog_5_6_48 : decode prog_5_method_6_code 48 = .ok (.sipush 128, 3) := by decide +kernel
theorem own_d_prog_5_6_51 : decode prog_5_method_6_code 51 = .ok (.isub, 1) := by decide +kernel
theorem own_d_prog_5_6_52 : decode prog_5_method_6_code 52 = .ok (.istore_n 2, 1) := by decide +kernel
theorem own_d_prog_5_6_53 : decode prog_5_method_6_code 53 = .ok (.iload_n 2, 1) := by decide +kernel
theorem own_d_prog_5_6_54 : decode prog_5_method_6_code 54 = .ok (.ireturn, 1) := by decide +kernel
theorem own_d_prog_5_7_0 : decode prog_5_method_7_code 0 = .ok (.iload_n 0, 1) := by decide +kernel
theorem own_d_prog_5_7_1 : decode prog_5_method_7_code 1 = .ok (.sipush 256, 3) := by decide +kernel
theorem own_d_prog_5_7_4 : decode prog_5_method_7_code 4 = .ok (.if_icmp .ge 9, 3) := by decide +kernel
theorem own_d_prog_5_7_7 : decode prog_5_method_7_code 7 = .ok (.iload_n 0, 1) := by decide +kernel
theorem own_d_prog_5_7_8 : decode prog_5_method_7_code 8 = .ok (.i2l, 1) := by decide +kernel
theorem own_d_prog_5_7_9 : decode prog_5_method_7_code 9 = .ok (.lstore_n 1, 1) := by decide +kernel
theorem own_d_prog_5_7_10 : decode prog_5_method_7_code 10 = .ok (.goto 46, 3) := by decide +kernel
theorem own_d_prog_5_7_13 : decode prog_5_method_7_code 13 = .ok (.iload_n 0, 1) := by decide +kernel
theorem own_d_prog_5_7_14 : decode prog_5_method_7_code 14 = .ok (.sipush 256, 3) := by decide +kernel
theorem own_d_prog_5_7_17 : decode prog_5_method_7_code 17 = .ok (.isub, 1) := by decide +kernel
theorem own_d_prog_5_7_18 : decode prog_5_method_7_code 18 = .ok (.sipush 128, 3) := by decide +kernel
theorem own_d_prog_5_7_21 : decode prog_5_method_7_code 21 = .ok (.idiv, 1) := by decide +kernel
theorem own_d_prog_5_7_22 : decode prog_5_method_7_code 22 = .ok (.iconst 1, 1) := by decide +kernel
theorem own_d_prog_5_7_23 : decode prog_5_method_7_code 23 = .ok (.iadd, 1) := by decide +kernel
theorem own_d_prog_5_7_24 : decode prog_5_method_7_code 24 = .ok (.istore_n 3, 1) := by decide +kernel
theorem own_d_prog_5_7_25 : decode prog_5_method_7_code 25 = .ok (.iload_n 0, 1) := by decide +kernel
theorem own_d_prog_5_7_26 : decode prog_5_method_7_code 26 = .ok (.sipush 256, 3) := by decide +kernel
theorem own_d_prog_5_7_29 : decode prog_5_method_7_code 29 = .ok (.isub, 1) := by decide +kernel
theorem own_d_prog_5_7_30 : decode prog_5_method_7_code 30 = .ok (.sipush 128, 3) := by decide +kernel
theorem own_d_prog_5_7_33 : decode prog_5_method_7_code 33 = .ok (.irem, 1) := by decide +kernel
theorem own_d_prog_5_7_34 : decode prog_5_method_7_code 34 = .ok (.sipush 128, 3) := by decide +kernel
theorem own_d_prog_5_7_37 : decode prog_5_method_7_code 37 = .ok (.iadd, 1) := by decide +kernel
theorem own_d_prog_5_7_38 : decode prog_5_method_7_code 38 = .ok (.i2l, 1) := by decide +kernel
theorem own_d_prog_5_7_39 : decode prog_5_method_7_code 39 = .ok (.iload_n 3, 1) := by decide +kernel
theorem own_d_prog_5_7_40 : decode prog_5_method_7_code 40 = .ok (.lshl, 1) := by decide +kernel
theorem own_d_prog_5_7_41 : decode prog_5_method_7_code 41 = .ok (.lstore 4, 2) := by decide +kernel
theorem own_d_prog_5_7_43 : decode prog_5_method_7_code 43 = .ok (.lload 4, 2) := by decide +kernel
theorem own_d_prog_5_7_45 : decode prog_5_method_7_code 45 = .ok (.lconst 1, 1) := by decide +kernel
theorem own_d_prog_5_7_46 : decode prog_5_method_7_code 46 = .ok (.iload_n 3, 1) := by decide +kernel
theorem own_d_prog_5_7_47 : decode prog_5_method_7_code 47 = .ok (.lshl, 1) := by decide +kernel
theorem own_d_prog_5_7_48 : decode prog_5_method_7_code 48 = .ok (.lconst 1, 1) := by decide +kernel
theorem own_d_prog_5_7_49 : decode prog_5_method_7_code 49 = .ok (.lsub, 1) := by decide +kernel
theorem own_d_prog_5_7_50 : decode prog_5_method_7_code 50 = .ok (.ldc2_w 42, 3) := by decide +kernel
theorem own_d_prog_5_7_53 : decode prog_5_method_7_code 53 = .ok (.ldiv, 1) := by decide +kernel
theorem own_d_prog_5_7_54 : decode prog_5_method_7_code 54 = .ok (.ladd, 1) := by decide +kernel
theorem own_d_prog_5_7_55 : decode prog_5_method_7_code 55 = .ok (.lstore_n 1, 1) := by decide +kernel
theorem own_d_prog_5_7_56 : decode prog_5_method_7_code 56 = .ok (.lload_n 1, 1) := by decide +kernel
theorem own_d_prog_5_7_57 : decode prog_5_method_7_code 57 = .ok (.lreturn, 1) := by decide +kernel
theorem own_pd0 : parseMethodDescriptor "(I)I" = some ⟨[.int], some .int⟩ := by decide +kernel
theorem own_pd1 : parseMethodDescriptor "(J)I" = some ⟨[.long], some .int⟩ := by decide +kernel
theorem own_pd2 : parseMethodDescriptor "(JJ)J" = some ⟨[.long, .long], some .long⟩ := by decide +kernel
theorem own_pd3 : parseMethodDescriptor "(D)I" = some ⟨[.double], some .int⟩ := by decide +kernel
theorem own_pd4 : parseMethodDescriptor "(DDDD)D" = some ⟨[.double, .double, .double, .double], some .double⟩ := by decide +kernel
theorem own_pd5 : parseMethodDescriptor "(I)J" = some ⟨[.int], some .long⟩ := by decide +kernel
theorem own_pd6 : parseMethodDescriptor "()V" = some ⟨[], none⟩ := by decide +kernel
theorem own_pd7 : parseMethodDescriptor "(J)V" = some ⟨[.long], none⟩ := by decide +kernel
theorem own_pd8 : parseMethodDescriptor "(D)J" = some ⟨[.double], some .long⟩ := by decide +kernel
theorem own_pd9 : parseMethodDescriptor "(Lcom/example/nocord/nocord/bench/Latencies;)V" = some ⟨[(.object "com/example/nocord/nocord/bench/Latencies")], none⟩ := by decide +kernel
theorem own_pd10 : parseMethodDescriptor "()J" = some ⟨[], some .long⟩ := by decide +kernel
theorem own_pn0 : plainName "java/lang/Integer" = true := by first | (simp [plainName, overriddenIn]; done) | decide +kernel
theorem own_pn1 : plainName "java/lang/Long" = true := by first | (simp [plainName, overriddenIn]; done) | decide +kernel
theorem own_pn2 : plainName "com/example/nocord/nocord/bench/Latencies" = true := by first | (simp [plainName, overriddenIn]; done) | decide +kernel
theorem own_pn3 : plainName "com/example/nocord/nocord/bench/LatenciesAddPinLaw" = true := by first | (simp [plainName, overriddenIn]; done) | decide +kernel
section OwnLat
def own_r (p a n : Int32) (lim : Int) : Prop := ∃ s : Nat, s ≤ 30 ∧ n.toInt = 31 - (s : Int) ∧ a.toInt = p.toInt / ((2 ^ s : Nat) : Int) ∧ 0 < a.toInt ∧ a.toInt < lim
theorem own_powle {s : Nat} {x : Int} (h : ((2 ^ s : Nat) : Int) ≤ x) (hx : x < 2147483648) : s ≤ 30 := by
  refine Nat.le_of_not_lt fun q => ?_
  have h1 : (2 : Nat) ^ 31 ≤ 2 ^ s := Nat.pow_le_pow_right (by decide) q
  have : (2147483648 : Nat) ≤ 2 ^ s := h1
  omega
theorem own_powleL {s : Nat} {x : Int} (h : ((2 ^ s : Nat) : Int) ≤ x) (hx : x < 9223372036854775808) : s ≤ 62 := by
  refine Nat.le_of_not_lt fun q => ?_
  have h1 : (2 : Nat) ^ 63 ≤ 2 ^ s := Nat.pow_le_pow_right (by decide) q
  have : (9223372036854775808 : Nat) ≤ 2 ^ s := h1
  omega
theorem own_r0 {p : Int32} (h : 0 < p.toInt) : own_r p p (31 : Int32) 2147483648 := ⟨0, by omega, by rfl, by simp, h, by have := rng32 p; omega⟩
theorem own_r_step {p a n q d : Int32} {k : Nat} {L M : Int} (h : own_r p a n L) (hk : q.toBitVec.toNat % 32 = k) (h0 : 0 < k) (hd : d.toInt = -(k : Int)) (hk2 : k ≤ 16) (hge : ((2 ^ k : Nat) : Int) ≤ a.toInt) (hM : L ≤ M * ((2 ^ k : Nat) : Int)) :
    own_r p ((a.toUInt32 >>> (q &&& 31).toUInt32).toInt32) (n + d) M := by
  obtain ⟨s, h1, h2, h3, h4, h5⟩ := h
  have e := c_iushr a q k hk h0
  have ra := rng32 a
  have rp := rng32 p
  have hpos : (0 : Int) < ((2 ^ k : Nat) : Int) := by have := Nat.two_pow_pos k; omega
  have hpos' : (0 : Int) < ((2 ^ s : Nat) : Int) := by have := Nat.two_pow_pos s; omega
  have e1 : a.toInt % 4294967296 = a.toInt := by omega
  rw [e1] at e
  have ep : ((2 ^ (s + k) : Nat) : Int) = ((2 ^ s : Nat) : Int) * ((2 ^ k : Nat) : Int) := by rw [Nat.pow_add]; exact Int.natCast_mul _ _
  have e2 : a.toInt / ((2 ^ k : Nat) : Int) = p.toInt / ((2 ^ (s + k) : Nat) : Int) := by rw [h3, ep, Int.ediv_ediv_of_nonneg (by omega)]
  have hq1 : 1 ≤ a.toInt / ((2 ^ k : Nat) : Int) := (Int.le_ediv_iff_mul_le hpos).mpr (by omega)
  have hbig : ((2 ^ (s + k) : Nat) : Int) ≤ p.toInt := by
    have hq2 : 1 ≤ p.toInt / ((2 ^ (s + k) : Nat) : Int) := by rw [← e2]; exact hq1
    have := (Int.le_ediv_iff_mul_le (by rw [ep]; exact Int.mul_pos hpos' hpos)).mp hq2
    omega
  have hs := own_powle hbig (by omega)
  refine ⟨s + k, hs, ?_, by rw [e, e2], by rw [e]; omega, ?_⟩
  · have r1 := c_iadd n d
    have r2 := rng32 (n + d)
    omega
  · rw [e]; exact Int.ediv_lt_of_lt_mul hpos (by omega)
def own_nz (p r : Int32) : Prop := ∃ j : Nat, j ≤ 30 ∧ r.toInt = 31 - (j : Int) ∧ ((2 ^ j : Nat) : Int) ≤ p.toInt ∧ p.toInt < ((2 ^ (j + 1) : Nat) : Int)
theorem own_r_end {p a n : Int32} (h : own_r p a n 4) : own_nz p (n - ((a.toUInt32 >>> ((1 : Int32) &&& 31).toUInt32).toInt32)) := by
  obtain ⟨s, h1, h2, h3, h4, h5⟩ := h
  have e := c_iushr a 1 1 (by decide) (by decide)
  have ra := rng32 a
  have rp := rng32 p
  have e1 : a.toInt % 4294967296 = a.toInt := by omega
  rw [e1] at e
  have e' : ((a.toUInt32 >>> ((1 : Int32) &&& 31).toUInt32).toInt32).toInt = a.toInt / 2 := e
  have r1 := c_isub n ((a.toUInt32 >>> ((1 : Int32) &&& 31).toUInt32).toInt32)
  have r2 := rng32 (n - ((a.toUInt32 >>> ((1 : Int32) &&& 31).toUInt32).toInt32))
  have hpos : (0 : Int) < ((2 ^ s : Nat) : Int) := by have := Nat.two_pow_pos s; omega
  have p1 : ((2 ^ (s + 1) : Nat) : Int) = 2 * ((2 ^ s : Nat) : Int) := by rw [Nat.pow_succ]; omega
  have p2 : ((2 ^ (s + 1 + 1) : Nat) : Int) = 4 * ((2 ^ s : Nat) : Int) := by rw [Nat.pow_succ, Nat.pow_succ]; omega
  have d1 : a.toInt * ((2 ^ s : Nat) : Int) ≤ p.toInt := (Int.le_ediv_iff_mul_le hpos).mp (by omega)
  have d2 : p.toInt < (a.toInt + 1) * ((2 ^ s : Nat) : Int) := (Int.ediv_lt_iff_lt_mul hpos).mp (by omega)
  have ha : a.toInt = 1 ∨ a.toInt = 2 ∨ a.toInt = 3 := by omega
  rcases ha with ha | ha | ha
  · rw [ha] at d1 d2 e'
    exact ⟨s, h1, by omega, by omega, by omega⟩
  all_goals
    rw [ha] at d1 d2 e'
    have hb : ((2 ^ (s + 1) : Nat) : Int) ≤ p.toInt := by omega
    exact ⟨s + 1, own_powle hb (by omega), by omega, hb, by omega⟩
def own_nzz (p r : Int32) : Prop := (0 < p.toInt → own_nz p r) ∧ (p.toInt = 0 → r.toInt = 32) ∧ (p.toInt < 0 → r.toInt = 0)
def own_nzL (p : Int64) (r : Int32) : Prop := ∃ j : Nat, j ≤ 62 ∧ r.toInt = 63 - (j : Int) ∧ ((2 ^ j : Nat) : Int) ≤ p.toInt ∧ p.toInt < ((2 ^ (j + 1) : Nat) : Int)
theorem own_hi (p : Int64) (h : 0 < p.toInt) : ((((p.toUInt64 >>> ((32 : Int32) &&& 0x3f).toInt64.toUInt64).toInt64).toInt32)).toInt = p.toInt / 4294967296 := by
  have e := c_lushr p 32 32 (by decide) (by decide)
  have e2 := c_l2i ((p.toUInt64 >>> ((32 : Int32) &&& 0x3f).toInt64.toUInt64).toInt64)
  have r := rng64 p
  have r2 := rng32 ((((p.toUInt64 >>> ((32 : Int32) &&& 0x3f).toInt64.toUInt64).toInt64).toInt32))
  have e' : ((p.toUInt64 >>> ((32 : Int32) &&& 0x3f).toInt64.toUInt64).toInt64).toInt = (p.toInt % 18446744073709551616) / 4294967296 := e
  omega
theorem own_nzL1 {p : Int64} {r : Int32} (h : 0 < p.toInt) (hz : (((p.toUInt64 >>> ((32 : Int32) &&& 0x3f).toInt64.toUInt64).toInt64).toInt32) = 0) (q : own_nzz (p.toInt32) r) : own_nzL p ((32 : Int32) + r) := by
  have e := own_hi p h
  rw [hz] at e
  have e0 : (0 : Int32).toInt = 0 := rfl
  rw [e0] at e
  have e2 := c_l2i p
  have r1 := rng32 p.toInt32
  have r2 := c_iadd 32 r
  have r3 := rng32 (32 + r)
  have r4 := rng32 r
  have e32 : (32 : Int32).toInt = 32 := rfl
  by_cases hp : 0 < p.toInt32.toInt
  · obtain ⟨j, j1, j2, j3, j4⟩ := q.1 hp
    have : p.toInt32.toInt = p.toInt := by omega
    rw [this] at j3 j4
    exact ⟨j, by omega, by omega, j3, j4⟩
  · have hr : p.toInt32.toInt < 0 := by omega
    have := q.2.2 hr
    exact ⟨31, by omega, by omega, by show (2147483648 : Int) ≤ _; omega, by show _ < (4294967296 : Int); omega⟩
theorem own_nzL2 {p : Int64} {r : Int32} (h : 0 < p.toInt) (hz : ¬ (((p.toUInt64 >>> ((32 : Int32) &&& 0x3f).toInt64.toUInt64).toInt64).toInt32) = 0) (q : own_nzz (((p.toUInt64 >>> ((32 : Int32) &&& 0x3f).toInt64.toUInt64).toInt64).toInt32) r) : own_nzL p r := by
  have e := own_hi p h
  have hz' : ¬ (((p.toUInt64 >>> ((32 : Int32) &&& 0x3f).toInt64.toUInt64).toInt64).toInt32).toInt = 0 := fun w => hz (Int32.toInt_inj.mp w)
  rw [e] at hz'
  obtain ⟨j, j1, j2, j3, j4⟩ := q.1 (by rw [e]; omega)
  rw [e] at j3 j4
  have p1 : ((2 ^ (j + 32) : Nat) : Int) = 4294967296 * ((2 ^ j : Nat) : Int) := by rw [Nat.pow_add]; omega
  have p2 : ((2 ^ (j + 32 + 1) : Nat) : Int) = 4294967296 * ((2 ^ (j + 1) : Nat) : Int) := by rw [Nat.pow_succ, Nat.pow_add, Nat.pow_succ]; omega
  exact ⟨j + 32, by omega, by omega, by omega, by omega⟩
def own_bk (k : Int32) : Prop := 0 ≤ k.toInt ∧ k.toInt < 7296
theorem own_bk1 {x : Int64} (h0 : 0 ≤ x.toInt) (h : x.toInt < 256) : own_bk x.toInt32 := by
  have e := c_l2i x
  have r := rng32 x.toInt32
  constructor <;> omega
theorem own_bk2 {x : Int64} {r : Int32} (q : own_nzL x r) (hge : 256 ≤ x.toInt) :
    own_bk (((256 : Int32) + (((63 : Int32) - r) - (8 : Int32)) * (128 : Int32)) + ((x.toUInt64 >>> (((((63 : Int32) - r) - (8 : Int32)) + (1 : Int32)) &&& 0x3f).toInt64.toUInt64).toInt64).toInt32 - (128 : Int32)) := by
  obtain ⟨j, j1, j2, j3, j4⟩ := q
  have hj : 8 ≤ j := by
    refine Nat.le_of_not_lt fun w => ?_
    have h1 : (2 : Nat) ^ (j + 1) ≤ 2 ^ 8 := Nat.pow_le_pow_right (by decide) w
    have : (2 : Nat) ^ (j + 1) ≤ 256 := h1
    omega
  have a1 := c_isub 63 r
  have a2 := rng32 ((63 : Int32) - r)
  have a3 := rng32 r
  have e63 : (63 : Int32).toInt = 63 := rfl
  have e8 : (8 : Int32).toInt = 8 := rfl
  have e1 : (1 : Int32).toInt = 1 := rfl
  have e128 : (128 : Int32).toInt = 128 := rfl
  have e256 : (256 : Int32).toInt = 256 := rfl
  generalize (63 : Int32) - r = k at a1 a2 ⊢
  have hk : k.toInt = j := by omega
  have b1 := c_isub k 8
  have b2 := rng32 (k - 8)
  have b3 := c_iadd (k - 8) 1
  have b4 := rng32 (k - 8 + 1)
  have b5 := c_imul (k - 8) 128
  rw [e128] at b5
  have b6 := rng32 ((k - 8) * 128)
  have b7 := c_iadd 256 ((k - 8) * 128)
  have b8 := rng32 (256 + (k - 8) * 128)
  have hsh : (k - 8 + 1).toInt = ((j - 7 : Nat) : Int) := by omega
  have hbv : (k - 8 + 1).toBitVec.toNat % 64 = j - 7 := by
    have w1 : ((k - 8 + 1).toBitVec.toNat : Int) = (k - 8 + 1).toInt := by
      have w := BitVec.toInt_eq_toNat_cond (k - 8 + 1).toBitVec
      have w3 : (k - 8 + 1).toBitVec.toInt = (k - 8 + 1).toInt := rfl
      have w4 := (k - 8 + 1).toBitVec.isLt
      rw [w3] at w
      split at w <;> omega
    omega
  have s1 := c_lushr x (k - 8 + 1) (j - 7) hbv (by omega)
  have rx := rng64 x
  have s2 : x.toInt % 18446744073709551616 = x.toInt := by omega
  rw [s2] at s1
  have pp : (2 : Nat) ^ (j + 1) = 256 * 2 ^ (j - 7) := by
    have : j + 1 = 8 + (j - 7) := by omega
    rw [this, Nat.pow_add]
  have hpos : (0 : Int) < ((2 ^ (j - 7) : Nat) : Int) := by have := Nat.two_pow_pos (j - 7); omega
  have s3 : x.toInt / ((2 ^ (j - 7) : Nat) : Int) < 256 := Int.ediv_lt_of_lt_mul hpos (by omega)
  have s4 : 0 ≤ x.toInt / ((2 ^ (j - 7) : Nat) : Int) := Int.ediv_nonneg (by omega) (by omega)
  rw [← s1] at s3 s4
  generalize (x.toUInt64 >>> ((k - 8 + 1) &&& 0x3f).toInt64.toUInt64).toInt64 = y at s3 s4 ⊢
  have c1 := c_l2i y
  have c2 := rng32 y.toInt32
  have c3 := c_iadd (256 + (k - 8) * 128) y.toInt32
  have c4 := rng32 (256 + (k - 8) * 128 + y.toInt32)
  have c5 := c_isub (256 + (k - 8) * 128 + y.toInt32) 128
  have c6 := rng32 (256 + (k - 8) * 128 + y.toInt32 - 128)
  constructor <;> omega
end OwnLat

def own_max (x y : Int64) : Int64 := if x < y then y else x
def own_min (x y : Int64) : Int64 := if y < x then y else x
theorem own_lc (x y : Int64) : (lcmpW x y < (0 : Int32) ↔ x < y) ∧ ((0 : Int32) < lcmpW x y ↔ y < x) := by
  have h := c_lcmp x y
  have e0 : (0 : Int32).toInt = 0 := rfl
  simp only [Int32.lt_iff_toInt_lt, Int64.lt_iff_toInt_lt, e0]
  omega
def own_mid (i : Int32) : Int64 := if i < (256 : Int32) then i.toInt64 else
  ((((i - (256 : Int32)) % (128 : Int32)) + (128 : Int32)).toInt64 <<< ((((i - (256 : Int32)) / (128 : Int32)) + (1 : Int32)) &&& 0x3f).toInt64) + ((((1 : Int64) <<< ((((i - (256 : Int32)) / (128 : Int32)) + (1 : Int32)) &&& 0x3f).toInt64) - (1 : Int64)) / (2 : Int64))

section OwnArf
variable {Z : State} {h h' : Heap} {a b : Addr} {k : ClassId} {f : Nat → Int64} {sl : Nat} {v : Value} {ws : List Addr}
/-- the cell at a is a long[] of 7296 whose components are f's -/
def own_Arf (Z : State) (h : Heap) (a : Addr) (k : ClassId) (f : Nat → Int64) : Prop := ∃ c : Cell, Arr Z h a c .long ∧ c.cls = k ∧ c.slots.size = 7296 ∧ ∀ i, i < 7296 → c.slots[i]? = some (.long (f i))
theorem own_Arf.lt (F : own_Arf Z h a k f) : a < h.size := by obtain ⟨c, A, -⟩ := F; exact A.lt
theorem own_Arf.ext (F : own_Arf Z h a k f) (E : Ext h h') : own_Arf Z h' a k f := by obtain ⟨c, A, r⟩ := F; exact ⟨c, A.ext E, r⟩
theorem own_Arf.other (F : own_Arf Z h b k f) (W : Wr h h' a sl v) (q : b ≠ a) : own_Arf Z h' b k f := by obtain ⟨c, A, r⟩ := F; exact ⟨c, A.other W q, r⟩
theorem own_Arf.keep (F : own_Arf Z h a k f) (K : Keep h h' ws) (q : a ∉ ws) : own_Arf Z h' a k f := by obtain ⟨c, A, r⟩ := F; exact ⟨c, ⟨K.2.1 a c A.1 q, A.2⟩, r⟩
theorem own_Arf.new (A : Arr Z h a (newA k .long (7296 : Int32)) .long) : own_Arf Z h a k (fun _ => (0 : Int64)) := by
  obtain ⟨c, A, q1, S, q3, H, G⟩ := Arv.new A (by decide)
  refine ⟨c, A, q1, by rw [S]; decide, fun i hi => ?_⟩
  have := H i (by rw [S]; exact hi)
  simpa [defaultValue] using this
def own_upd (f : Nat → Int64) (n : Nat) (x : Int64) : Nat → Int64 := fun i => if i = n then x else f i
def own_inc (f : Nat → Int64) (j : Int32) : Nat → Int64 := own_upd f j.toNatClampNeg (f j.toNatClampNeg + (1 : Int64))
theorem own_Arf.set {c : Cell} (A : Arr Z h a c .long) (q1 : c.cls = k) (S : c.slots.size = 7296) (H : ∀ i, i < 7296 → c.slots[i]? = some (.long (f i))) {j : Int32} {x : Int64} (W : Wr h h' a j.toNatClampNeg (.long x)) : own_Arf Z h' a k (own_upd f j.toNatClampNeg x) := by
  refine ⟨c.setSlot j.toNatClampNeg (.long x), Arr.same W A, q1, by simp [Cell.setSlot, S], fun i hi => ?_⟩
  have := H i hi
  simp only [Cell.setSlot, Array.getElem?_setIfInBounds, own_upd]
  by_cases e : j.toNatClampNeg = i
  · subst e; simp [S, hi]
  · rw [if_neg e, if_neg (fun u => e u.symm)]; exact this
theorem own_nat {j : Int32} (q : own_bk j) : j.toNatClampNeg < 7296 ∧ ((j.toNatClampNeg : Nat) : Int) = j.toInt := by
  have h2 := q.2
  have h1 := q.1
  have e := nat_of (j := j) (fun u => by have := Int32.lt_iff_toInt_lt.mp u; have e0 : (0 : Int32).toInt = 0 := rfl; omega)
  omega
theorem own_inb {c : Cell} {j : Int32} (S : c.slots.size = 7296) (q : own_bk j) : ¬ (j < 0 ∨ c.slots.size ≤ j.toNatClampNeg) := by
  have h := own_nat q
  intro u
  rcases u with u | u
  · have := Int32.lt_iff_toInt_lt.mp u
    have e0 : (0 : Int32).toInt = 0 := rfl
    have := q.1
    omega
  · omega
theorem own_max0 (x : Int64) : 0 ≤ (own_max (0 : Int64) x).toInt := by
  have e0 : (0 : Int64).toInt = 0 := rfl
  unfold own_max
  split
  · rename_i h
    have := Int64.lt_iff_toInt_lt.mp h
    omega
  · omega
end OwnArf

section OwnPre
def own_pre (f : Nat → Int64) : Nat → Int
  | 0 => 0
  | n + 1 => own_pre f n + (f n).toInt
def own_small (f : Nat → Int64) : Prop := ∀ i, 0 ≤ (f i).toInt ∧ (f i).toInt ≤ 3
def own_at (f : Nat → Int64) (rank : Int) (ix : Int32) : Prop := own_bk ix ∧ own_pre f ix.toNatClampNeg < rank ∧ rank ≤ own_pre f (ix.toNatClampNeg + 1)
theorem own_natx {j : Int32} {n : Nat} (h : j.toInt = (n : Int)) : j.toNatClampNeg = n := by
  have e := nat_of (j := j) (fun u => by have := Int32.lt_iff_toInt_lt.mp u; have e0 : (0 : Int32).toInt = 0 := rfl; omega)
  omega
theorem own_pre_nonneg {f : Nat → Int64} (hs : own_small f) : ∀ n, 0 ≤ own_pre f n
  | 0 => by simp [own_pre]
  | n + 1 => by have := own_pre_nonneg hs n; have := (hs n).1; simp only [own_pre]; omega
theorem own_turn {f : Nat → Int64} (hs : own_small f) {bv : Int64} {iv : Int32} {ix : Nat} {rank : Int} (hr : rank ≤ 3) (hix : iv.toInt = (ix : Int)) (hb : bv.toInt = own_pre f ix) (hlt : own_pre f ix < rank) : (bv + f iv.toNatClampNeg).toInt = own_pre f (ix + 1) := by
  rw [own_natx hix]
  have h1 := hs ix
  have h2 := own_pre_nonneg hs ix
  have h3 := c_ladd bv (f ix)
  have h4 := rng64 (bv + f ix)
  simp only [own_pre]
  omega
theorem own_ivinc {iv : Int32} {ix : Nat} (hix : iv.toInt = (ix : Int)) (h : ix < 7296) : (iv + (1 : Int32)).toInt = ((ix + 1 : Nat) : Int) := by
  have h3 := c_iadd iv 1
  have h4 := rng32 (iv + 1)
  have e1 : (1 : Int32).toInt = 1 := rfl
  omega
def own_addf (f g : Nat → Int64) (n : Nat) : Nat → Int64 := fun i => if i < n then f i + g i else f i
theorem own_addf_zero (f g : Nat → Int64) : own_addf f g 0 = f := by funext i; simp [own_addf]
theorem own_addf_step {f g : Nat → Int64} {iv : Int32} {ix : Nat} (hix : iv.toInt = (ix : Int)) : own_upd (own_addf f g ix) iv.toNatClampNeg ((own_addf f g ix) iv.toNatClampNeg + g iv.toNatClampNeg) = own_addf f g (ix + 1) := by
  rw [own_natx hix]
  funext i
  simp only [own_upd, own_addf]
  by_cases h : i = ix
  · subst h; simp
  · rw [if_neg h]
    by_cases h2 : i < ix
    · rw [if_pos h2, if_pos (by omega)]
    · rw [if_neg h2, if_neg (by omega)]
theorem own_staS {Z s : State} {h : Heap} {C n d : String} {v : Value} (hZ : Z.Warmed39 s.vm) (F : Sta Z h C n d v) : Sta s h C n d v := by
  obtain ⟨cf, i, k, f, st, cell, h1, h2, h3, h4, h5, h6, h7⟩ := F
  obtain ⟨k', hi, ek⟩ := State.fieldFound?_setVm (s := Z) hZ.alike h1
  exact ⟨cf, i, k', f, st, cell, hi, h2, by rw [ek]; exact h3, by rw [ek]; exact h4, h5, h6, h7⟩
end OwnPre

section OwnLaw
def own_chk : Nat → Nat → Bool
  | 0, _ => true
  | n + 1, k => decide (own_mid (Int32.ofNat k) ≤ own_mid (Int32.ofNat (k + 1))) && own_chk n (k + 1)
theorem own_chk_at : ∀ (n k i : Nat), own_chk n k = true → k ≤ i → i < k + n → (own_mid (Int32.ofNat i)).toInt ≤ (own_mid (Int32.ofNat (i + 1))).toInt
  | 0, k, i, _, h1, h2 => absurd h2 (by omega)
  | n + 1, k, i, h, h1, h2 => by
    simp only [own_chk, Bool.and_eq_true, decide_eq_true_eq] at h
    by_cases e : i = k
    · subst e; exact Int64.le_iff_toInt_le.mp h.1
    · exact own_chk_at n (k + 1) i h.2 (by omega) (by omega)
theorem own_ck0 : own_chk 456 0 = true := by decide +kernel
theorem own_ck1 : own_chk 456 456 = true := by decide +kernel
theorem own_ck2 : own_chk 456 912 = true := by decide +kernel
theorem own_ck3 : own_chk 456 1368 = true := by decide +kernel
theorem own_ck4 : own_chk 456 1824 = true := by decide +kernel
theorem own_ck5 : own_chk 456 2280 = true := by decide +kernel
theorem own_ck6 : own_chk 456 2736 = true := by decide +kernel
theorem own_ck7 : own_chk 456 3192 = true := by decide +kernel
theorem own_ck8 : own_chk 456 3648 = true := by decide +kernel
theorem own_ck9 : own_chk 456 4104 = true := by decide +kernel
theorem own_ck10 : own_chk 456 4560 = true := by decide +kernel
theorem own_ck11 : own_chk 456 5016 = true := by decide +kernel
theorem own_ck12 : own_chk 456 5472 = true := by decide +kernel
theorem own_ck13 : own_chk 456 5928 = true := by decide +kernel
theorem own_ck14 : own_chk 456 6384 = true := by decide +kernel
theorem own_ck15 : own_chk 455 6840 = true := by decide +kernel
theorem own_mono1 (i : Nat) (h : i < 7295) : (own_mid (Int32.ofNat i)).toInt ≤ (own_mid (Int32.ofNat (i + 1))).toInt := by
  by_cases h0 : i < 456
  · exact own_chk_at _ _ _ own_ck0 (by omega) (by omega)
  by_cases h1 : i < 912
  · exact own_chk_at _ _ _ own_ck1 (by omega) (by omega)
  by_cases h2 : i < 1368
  · exact own_chk_at _ _ _ own_ck2 (by omega) (by omega)
  by_cases h3 : i < 1824
  · exact own_chk_at _ _ _ own_ck3 (by omega) (by omega)
  by_cases h4 : i < 2280
  · exact own_chk_at _ _ _ own_ck4 (by omega) (by omega)
  by_cases h5 : i < 2736
  · exact own_chk_at _ _ _ own_ck5 (by omega) (by omega)
  by_cases h6 : i < 3192
  · exact own_chk_at _ _ _ own_ck6 (by omega) (by omega)
  by_cases h7 : i < 3648
  · exact own_chk_at _ _ _ own_ck7 (by omega) (by omega)
  by_cases h8 : i < 4104
  · exact own_chk_at _ _ _ own_ck8 (by omega) (by omega)
  by_cases h9 : i < 4560
  · exact own_chk_at _ _ _ own_ck9 (by omega) (by omega)
  by_cases h10 : i < 5016
  · exact own_chk_at _ _ _ own_ck10 (by omega) (by omega)
  by_cases h11 : i < 5472
  · exact own_chk_at _ _ _ own_ck11 (by omega) (by omega)
  by_cases h12 : i < 5928
  · exact own_chk_at _ _ _ own_ck12 (by omega) (by omega)
  by_cases h13 : i < 6384
  · exact own_chk_at _ _ _ own_ck13 (by omega) (by omega)
  by_cases h14 : i < 6840
  · exact own_chk_at _ _ _ own_ck14 (by omega) (by omega)
  by_cases h15 : i < 7295
  · exact own_chk_at _ _ _ own_ck15 (by omega) (by omega)
  omega
theorem own_mono2 (i : Nat) : ∀ d, i + d < 7296 → (own_mid (Int32.ofNat i)).toInt ≤ (own_mid (Int32.ofNat (i + d))).toInt
  | 0, _ => Int.le_refl _
  | d + 1, h => Int.le_trans (own_mono2 i d (by omega)) (own_mono1 (i + d) (by omega))
theorem own_ofNat {j : Int32} (q : own_bk j) : Int32.ofNat j.toNatClampNeg = j := by
  have h := own_nat q
  rw [← Int32.toInt_inj]
  have e := h.2
  have : (Int32.ofNat j.toNatClampNeg).toInt = (j.toNatClampNeg : Int) := Int32.toInt_ofNat_of_lt (by omega)
  omega
theorem own_mono {i j : Int32} (hi : own_bk i) (hj : own_bk j) (h : i.toNatClampNeg ≤ j.toNatClampNeg) : (own_mid i).toInt ≤ (own_mid j).toInt := by
  have a := own_mono2 i.toNatClampNeg (j.toNatClampNeg - i.toNatClampNeg) (by have := (own_nat hj).1; omega)
  rw [show i.toNatClampNeg + (j.toNatClampNeg - i.toNatClampNeg) = j.toNatClampNeg by omega, own_ofNat hi, own_ofNat hj] at a
  exact a
theorem own_same {i j : Int32} (hi : own_bk i) (hj : own_bk j) (h : i.toNatClampNeg = j.toNatClampNeg) : i = j := by rw [← own_ofNat hi, ← own_ofNat hj, h]
theorem own_minmid {i j k : Int32} (hi : own_bk i) (hj : own_bk j) (hk : own_bk k) (h : (i.toNatClampNeg ≤ j.toNatClampNeg ∧ k.toNatClampNeg = i.toNatClampNeg) ∨ (j.toNatClampNeg ≤ i.toNatClampNeg ∧ k.toNatClampNeg = j.toNatClampNeg)) : own_mid k = own_min (own_mid i) (own_mid j) := by
  unfold own_min
  rcases h with ⟨h1, h2⟩ | ⟨h1, h2⟩
  · rw [own_same hk hi h2, if_neg (fun u => by have := own_mono hi hj h1; have := Int64.lt_iff_toInt_lt.mp u; omega)]
  · rw [own_same hk hj h2]
    split
    · rfl
    · rename_i u
      have := own_mono hj hi h1
      exact Int64.toInt_inj.mp (by have h9 := Int.not_lt.mp (fun w => u (Int64.lt_iff_toInt_lt.mpr w)); omega)
theorem own_maxmid {i j k : Int32} (hi : own_bk i) (hj : own_bk j) (hk : own_bk k) (h : (j.toNatClampNeg ≤ i.toNatClampNeg ∧ k.toNatClampNeg = i.toNatClampNeg) ∨ (i.toNatClampNeg ≤ j.toNatClampNeg ∧ k.toNatClampNeg = j.toNatClampNeg)) : own_mid k = own_max (own_mid i) (own_mid j) := by
  unfold own_max
  rcases h with ⟨h1, h2⟩ | ⟨h1, h2⟩
  · rw [own_same hk hi h2, if_neg (fun u => by have := own_mono hj hi h1; have := Int64.lt_iff_toInt_lt.mp u; omega)]
  · rw [own_same hk hj h2]
    split
    · rfl
    · rename_i u
      have := own_mono hi hj h1
      exact Int64.toInt_inj.mp (by have h9 := Int.not_lt.mp (fun w => u (Int64.lt_iff_toInt_lt.mpr w)); omega)
def own_le (f : Nat → Int64) (m : Int) : Prop := ∀ i, 0 ≤ (f i).toInt ∧ (f i).toInt ≤ m
theorem own_le0 : own_le (fun _ => (0 : Int64)) 0 := fun _ => ⟨Int.le_refl _, Int.le_refl _⟩
theorem own_incv {f : Nat → Int64} {m : Int} (h : own_le f m) (hm : m ≤ 10) (n : Nat) : (f n + (1 : Int64)).toInt = (f n).toInt + 1 := by
  have := h n
  have h3 := c_ladd (f n) 1
  have h4 := rng64 (f n + 1)
  have e1 : (1 : Int64).toInt = 1 := rfl
  omega
theorem own_le_inc {f : Nat → Int64} {m : Int} (h : own_le f m) (hm : m ≤ 10) (j : Int32) : own_le (own_inc f j) (m + 1) := fun i => by
  have a := h i
  have b := h j.toNatClampNeg
  have c := own_incv h hm j.toNatClampNeg
  simp only [own_inc, own_upd]
  split <;> omega
theorem own_addv {f g : Nat → Int64} {m k : Int} (h : own_le f m) (hg : own_le g k) (hm : m ≤ 10) (hk : k ≤ 10) (i : Nat) : (f i + g i).toInt = (f i).toInt + (g i).toInt := by
  have a := h i
  have b := hg i
  have h3 := c_ladd (f i) (g i)
  have h4 := rng64 (f i + g i)
  omega
theorem own_le_addf {f g : Nat → Int64} {m k : Int} (h : own_le f m) (hg : own_le g k) (hm : m ≤ 10) (hk : k ≤ 10) (n : Nat) : own_le (own_addf f g n) (m + k) := fun i => by
  have a := h i
  have b := hg i
  have c := own_addv h hg hm hk i
  simp only [own_addf]
  split <;> omega
theorem own_small_of {f : Nat → Int64} {m : Int} (h : own_le f m) (hm : m ≤ 3) : own_small f := fun i => by have := h i; omega
theorem own_pre0 : ∀ n, own_pre (fun _ => (0 : Int64)) n = 0
  | 0 => rfl
  | n + 1 => by simp only [own_pre, own_pre0 n]; rfl
theorem own_pre_inc {f : Nat → Int64} {m : Int} (h : own_le f m) (hm : m ≤ 10) (j : Int32) : ∀ n, own_pre (own_inc f j) n = own_pre f n + (if j.toNatClampNeg < n then 1 else 0)
  | 0 => by simp [own_pre]
  | n + 1 => by
    have ih := own_pre_inc h hm j n
    have c := own_incv h hm j.toNatClampNeg
    simp only [own_pre, ih]
    simp only [own_inc, own_upd]
    by_cases e : n = j.toNatClampNeg
    · subst e; rw [if_pos rfl, if_neg (by omega), if_pos (by omega), c]; omega
    · rw [if_neg e]
      by_cases e2 : j.toNatClampNeg < n
      · rw [if_pos e2, if_pos (by omega)]; omega
      · rw [if_neg e2, if_neg (by omega)]; omega
theorem own_pre_addf {f g : Nat → Int64} {m k : Int} (h : own_le f m) (hg : own_le g k) (hm : m ≤ 10) (hk : k ≤ 10) : ∀ n, n ≤ 7296 → own_pre (own_addf f g 7296) n = own_pre f n + own_pre g n
  | 0, _ => by simp [own_pre]
  | n + 1, hn => by
    have ih := own_pre_addf h hg hm hk n (by omega)
    have c := own_addv h hg hm hk n
    simp only [own_pre, ih]
    simp only [own_addf]
    rw [if_pos (by omega), c]; omega
abbrev own_z : Nat → Int64 := fun _ => (0 : Int64)
theorem own_leA (a : Int32) : own_le (own_inc own_z a) 1 := own_le_inc own_le0 (by decide) a
theorem own_leB (b c : Int32) : own_le (own_inc (own_inc own_z b) c) 2 := own_le_inc (own_leA b) (by decide) c
theorem own_leC (a b c : Int32) : own_le (own_addf (own_inc own_z a) (own_inc (own_inc own_z b) c) 7296) 3 := own_le_addf (own_leA a) (own_leB b c) (by decide) (by decide) 7296
theorem own_preA (a : Int32) (n : Nat) : own_pre (own_inc own_z a) n = if a.toNatClampNeg < n then 1 else 0 := by rw [own_pre_inc own_le0 (by decide), own_pre0]; omega
theorem own_preB (b c : Int32) (n : Nat) : own_pre (own_inc (own_inc own_z b) c) n = (if b.toNatClampNeg < n then 1 else 0) + (if c.toNatClampNeg < n then 1 else 0) := by rw [own_pre_inc (own_leA b) (by decide), own_preA]
theorem own_preC (a b c : Int32) (n : Nat) (hn : n ≤ 7296) : own_pre (own_addf (own_inc own_z a) (own_inc (own_inc own_z b) c) 7296) n = (if a.toNatClampNeg < n then 1 else 0) + ((if b.toNatClampNeg < n then 1 else 0) + (if c.toNatClampNeg < n then 1 else 0)) := by
  rw [own_pre_addf (own_leA a) (own_leB b c) (by decide) (by decide) n hn, own_preA, own_preB]
theorem own_totA {a : Int32} (ha : own_bk a) : own_pre (own_inc own_z a) 7296 = 1 := by rw [own_preA, if_pos (own_nat ha).1]
theorem own_totB {b c : Int32} (hb : own_bk b) (hc : own_bk c) : own_pre (own_inc (own_inc own_z b) c) 7296 = 2 := by rw [own_preB, if_pos (own_nat hb).1, if_pos (own_nat hc).1]; rfl
theorem own_totC {a b c : Int32} (ha : own_bk a) (hb : own_bk b) (hc : own_bk c) : own_pre (own_addf (own_inc own_z a) (own_inc (own_inc own_z b) c) 7296) 7296 = 3 := by rw [own_preC _ _ _ _ (Nat.le_refl _), if_pos (own_nat ha).1, if_pos (own_nat hb).1, if_pos (own_nat hc).1]; rfl
theorem own_if (p : Prop) [Decidable p] : (p ∧ (if p then (1 : Int) else 0) = 1) ∨ (¬ p ∧ (if p then (1 : Int) else 0) = 0) := by by_cases h : p <;> simp [h]
theorem own_atA {a i : Int32} (h : own_at (own_inc own_z a) 1 i) : i.toNatClampNeg = a.toNatClampNeg := by
  obtain ⟨-, h1, h2⟩ := h
  rw [own_preA] at h1 h2
  have q1 := own_if (a.toNatClampNeg < i.toNatClampNeg)
  have q2 := own_if (a.toNatClampNeg < i.toNatClampNeg + 1)
  omega
theorem own_atB {b c i : Int32} {r : Int} (h : own_at (own_inc (own_inc own_z b) c) r i) : (r = 1 → (b.toNatClampNeg ≤ c.toNatClampNeg ∧ i.toNatClampNeg = b.toNatClampNeg) ∨ (c.toNatClampNeg ≤ b.toNatClampNeg ∧ i.toNatClampNeg = c.toNatClampNeg)) ∧ (r = 2 → (b.toNatClampNeg ≤ c.toNatClampNeg ∧ i.toNatClampNeg = c.toNatClampNeg) ∨ (c.toNatClampNeg ≤ b.toNatClampNeg ∧ i.toNatClampNeg = b.toNatClampNeg)) := by
  obtain ⟨-, h1, h2⟩ := h
  rw [own_preB] at h1 h2
  have q1 := own_if (b.toNatClampNeg < i.toNatClampNeg)
  have q2 := own_if (b.toNatClampNeg < i.toNatClampNeg + 1)
  have q3 := own_if (c.toNatClampNeg < i.toNatClampNeg)
  have q4 := own_if (c.toNatClampNeg < i.toNatClampNeg + 1)
  constructor <;> intro hr <;> omega
theorem own_atC {a b c i : Int32} {r : Int} (h : own_at (own_addf (own_inc own_z a) (own_inc (own_inc own_z b) c) 7296) r i) :
    ∃ x1 y1 x2 y2 x3 y3 : Int, ((a.toNatClampNeg < i.toNatClampNeg ∧ x1 = 1) ∨ (¬ a.toNatClampNeg < i.toNatClampNeg ∧ x1 = 0)) ∧ ((a.toNatClampNeg < i.toNatClampNeg + 1 ∧ y1 = 1) ∨ (¬ a.toNatClampNeg < i.toNatClampNeg + 1 ∧ y1 = 0)) ∧ ((b.toNatClampNeg < i.toNatClampNeg ∧ x2 = 1) ∨ (¬ b.toNatClampNeg < i.toNatClampNeg ∧ x2 = 0)) ∧ ((b.toNatClampNeg < i.toNatClampNeg + 1 ∧ y2 = 1) ∨ (¬ b.toNatClampNeg < i.toNatClampNeg + 1 ∧ y2 = 0)) ∧
      ((c.toNatClampNeg < i.toNatClampNeg ∧ x3 = 1) ∨ (¬ c.toNatClampNeg < i.toNatClampNeg ∧ x3 = 0)) ∧ ((c.toNatClampNeg < i.toNatClampNeg + 1 ∧ y3 = 1) ∨ (¬ c.toNatClampNeg < i.toNatClampNeg + 1 ∧ y3 = 0)) ∧ x1 + (x2 + x3) < r ∧ r ≤ y1 + (y2 + y3) := by
  obtain ⟨hb, h1, h2⟩ := h
  have hb' := (own_nat hb).1
  rw [own_preC _ _ _ _ (by omega)] at h1 h2
  exact ⟨_, _, _, _, _, _, own_if _, own_if _, own_if _, own_if _, own_if _, own_if _, h1, h2⟩
theorem own_L1 {a b c i1 i2 i4 : Int32} (h1 : own_at (own_inc own_z a) 1 i1) (h2 : own_at (own_inc (own_inc own_z b) c) 1 i2) (h4 : own_at (own_addf (own_inc own_z a) (own_inc (own_inc own_z b) c) 7296) 1 i4) : own_mid i4 = own_min (own_mid i1) (own_mid i2) := by
  have e1 := own_atA h1
  have e2 := (own_atB h2).1 rfl
  obtain ⟨x1, y1, x2, y2, x3, y3, q⟩ := own_atC h4
  exact own_minmid h1.1 h2.1 h4.1 (by omega)
theorem own_L3 {a b c i1 i3 i6 : Int32} (h1 : own_at (own_inc own_z a) 1 i1) (h3 : own_at (own_inc (own_inc own_z b) c) 2 i3) (h6 : own_at (own_addf (own_inc own_z a) (own_inc (own_inc own_z b) c) 7296) 3 i6) : own_mid i6 = own_max (own_mid i1) (own_mid i3) := by
  have e1 := own_atA h1
  have e3 := (own_atB h3).2 rfl
  obtain ⟨x1, y1, x2, y2, x3, y3, q⟩ := own_atC h6
  exact own_maxmid h1.1 h3.1 h6.1 (by omega)
theorem own_L2 {a b c i1 i2 i3 i5 : Int32} (h1 : own_at (own_inc own_z a) 1 i1) (h2 : own_at (own_inc (own_inc own_z b) c) 1 i2) (h3 : own_at (own_inc (own_inc own_z b) c) 2 i3) (h5 : own_at (own_addf (own_inc own_z a) (own_inc (own_inc own_z b) c) 7296) 2 i5) : own_mid i5 = own_max (own_mid i2) (own_min (own_mid i1) (own_mid i3)) := by
  have e1 := own_atA h1
  have e2 := (own_atB h2).1 rfl
  have e3 := (own_atB h3).2 rfl
  obtain ⟨x1, y1, x2, y2, x3, y3, q⟩ := own_atC h5
  by_cases hc : i1.toNatClampNeg ≤ i3.toNatClampNeg
  · rw [← own_minmid h1.1 h3.1 h1.1 (Or.inl ⟨hc, rfl⟩)]
    exact own_maxmid h2.1 h1.1 h5.1 (by omega)
  · rw [← own_minmid h1.1 h3.1 h3.1 (Or.inr ⟨by omega, rfl⟩)]
    exact own_maxmid h2.1 h3.1 h5.1 (by omega)
end OwnLaw

theorem own_lcs (x y : Int64) (h : x = y) : lcmpW x y = (0 : Int32) := by
  subst h
  have q := (c_lcmp x x).2.1 rfl
  exact Int32.toInt_inj.mp q

section OwnCeil
variable {p : Program} {l : Launch} {e : Env} {s B : State} {m : MethodId} {args : Array Value} {below F : List Frame} {c cd : Code} {T U : State} {n1 n2 k1 k2 : Nat} {g : JFrame} {m' : MethodId}
/-- a walk in a frame that lies on F, the room counted as the machine counts it -/
def own_N (l : Launch) (e : Env) (s B : State) (below F : List Frame) (m : MethodId) (c : Code) (T : State) (n1 n2 : Nat) : Prop :=
  l.admits e ∧ At T m c below ∧ T.frames.tail = F ∧ s.WarmedH T.vm ∧ (∃ mid, F = mid ++ below) ∧ F.length + n1 ≤ (e.platform.stackLimits T.me).1 ∧ (stackUse F).2 + n2 ≤ (e.platform.stackLimits T.me).2 ∧ ∃ v fs, T = (B.setVm v).setFrames fs
theorem own_N.admits (X : own_N l e s B below F m c T n1 n2) : l.admits e := X.1
theorem own_N.here (X : own_N l e s B below F m c T n1 n2) : At T m c below := X.2.1
theorem own_N.tail (X : own_N l e s B below F m c T n1 n2) : T.frames.tail = F := X.2.2.1
theorem own_N.warmed (X : own_N l e s B below F m c T n1 n2) : s.WarmedH T.vm := X.2.2.2.1
theorem own_N.mid (X : own_N l e s B below F m c T n1 n2) : ∃ mid, F = mid ++ below := X.2.2.2.2.1
theorem own_N.l1 (X : own_N l e s B below F m c T n1 n2) : F.length + n1 ≤ (e.platform.stackLimits T.me).1 := X.2.2.2.2.2.1
theorem own_N.l2 (X : own_N l e s B below F m c T n1 n2) : (stackUse F).2 + n2 ≤ (e.platform.stackLimits T.me).2 := X.2.2.2.2.2.2.1
theorem own_N.base (X : own_N l e s B below F m c T n1 n2) : ∃ v fs, T = (B.setVm v).setFrames fs := X.2.2.2.2.2.2.2
theorem own_N.heapEq (X : own_N l e s B below F m c T n1 n2) : T.heap = B.heap := by obtain ⟨v, fs, h⟩ := X.base; rw [h]; rfl
theorem own_N.noted (X : own_N l e s B below F m c T n1 n2) {vm' : Vm} (hW : s.WarmedH vm') : own_N l e s B below F m c (T.setVm vm') n1 n2 :=
  ⟨X.admits, X.here.setVm (X.warmed.alike.symm.trans hW.alike), X.tail, hW, X.mid, X.l1, X.l2, by obtain ⟨v, fs, h⟩ := X.base; exact ⟨vm', fs, by rw [h]; rfl⟩⟩
theorem own_N.full (X : own_N l e s B below F m c T n1 n2) {g : JFrame} {vars : Nat} (h1 : 2 ≤ n1) (h2 : g.locals.size + 11 + 2 * g.monitorRoom + operandWords g.stack + vars + 11 ≤ n2) :
    e.platform.stackFull (((T.setTop g).threads[(T.setTop g).cur]?).getD { frames := [] }) (T.setTop g).frames vars = false := by
  have hF : (T.setTop g).frames = .java g :: F := by rw [State.frames_setTop' _ X.here.top, X.tail]
  have a1 := X.l1
  have a2 := X.l2
  rw [← State.stackLimits_setTop e.platform X.here.top g] at a1 a2
  rw [hF]
  refine Platform.stackFull_eq_false ?_ ?_
  · show _ < (e.platform.stackLimits (T.setTop g).me).1
    rw [List.length_cons]; omega
  · show _ ≤ (e.platform.stackLimits (T.setTop g).me).2
    rw [stackUse_java]; dsimp only; omega
theorem own_N.ldcL (X : own_N l e s B below F m c T n1 n2) (hx : p.tables.exec = Jvm.exec) {own : String} {i : Nat} {v : Int64} (hown : s.vm.findClass own = some m.cls) (hc : (Cond.constantLong own i v).before args s = true)
    {g : JFrame} (hg : g.method = m) (hd : decode c.code g.pc = .ok (.ldc2_w i, 3)) {t : State} (k : Steps p.tables e below (T.setTop { g with pc := g.pc + 3, stack := .long v :: g.stack }) t) : Steps p.tables e below (T.setTop g) t := by
  obtain ⟨k0, cf, bs, h1, h2, h3, h4⟩ := Cond.constantLong_spec hown hc
  obtain ⟨k1, h5, h6⟩ := X.warmed.alike.2.2 _ _ h1
  subst hg
  jvm_step X.here [hx, hd, ldc2_w.wp_long (s := T) (f := g) X.here.top h5 (by rw [h6]; exact h2) h3, h4]
  exact k
theorem own_N.ldcD (X : own_N l e s B below F m c T n1 n2) (hx : p.tables.exec = Jvm.exec) {own : String} {i : Nat} {v : UInt64} (hown : s.vm.findClass own = some m.cls) (hc : (Cond.constantDouble own i v).before args s = true)
    {g : JFrame} (hg : g.method = m) (hd : decode c.code g.pc = .ok (.ldc2_w i, 3)) {t : State} (k : Steps p.tables e below (T.setTop { g with pc := g.pc + 3, stack := .double v :: g.stack }) t) : Steps p.tables e below (T.setTop g) t := by
  obtain ⟨k0, cf, h1, h2, h3⟩ := Cond.constantDouble_spec hown hc
  obtain ⟨k1, h5, h6⟩ := X.warmed.alike.2.2 _ _ h1
  subst hg
  jvm_step X.here [hx, hd, ldc2_w.wp_double (s := T) (f := g) X.here.top h5 (by rw [h6]; exact h2) h3]
  exact k
theorem own_N.getst (X : own_N l e s B below F m c T n1 n2) (hx : p.tables.exec = Jvm.exec) {own C n d : String} {i : Nat} {v : Value} (hown : s.vm.findClass own = some m.cls) (hl : (Cond.fieldLink own i C n d).before args s = true) (hS : Sta s T.heap C n d v)
    {g : JFrame} (hg : g.method = m) (hd : decode c.code g.pc = .ok (.getstatic i, 3)) :
    ∃ vm', own_N l e s B below F m c (T.setVm vm') n1 n2 ∧ ∀ t, Steps p.tables e below ((T.setVm vm').setTop { g with pc := g.pc + 3, stack := v :: g.stack }) t → Steps p.tables e below (T.setTop g) t := by
  obtain ⟨cf, j, k0, f, st, cell, h1, h2, h3, h4, h5, h6, h7⟩ := hS
  obtain ⟨_, _, _, _, _, hi', hlinks, hright⟩ := Cond.fieldLink_spec hown hl e.platform (by rw [X.admits.platform])
  cases h1.symm.trans hi'
  obtain ⟨hk, hf⟩ := State.fieldFound?_spec h1
  subst hg
  obtain ⟨vm', hW, hk'⟩ := Steps.getstaticCold (tb := p.tables) (e := e) (f := g) X.here hx hd X.warmed hlinks hright hk hf h2 h3 h4 h5 (by intro q; rw [q] at h6; cases h6) h7
  exact ⟨vm', X.noted hW, hk'⟩
theorem own_N.inv (X : own_N l e s B below F m c T n1 n2) (hx : p.tables.exec = Jvm.exec) {own : String} {i : Nat} {y : MethodName} (hown : s.vm.findClass own = some m.cls) (hl : (Cond.methodLink own i y).before args s = true)
    {m' : MethodId} {M : Method} {K : Class} (hn : s.methodNamed? y = some m') (hM : s.vm.method? m' = some M) (hst : M.isStatic = true) (hK : s.vm.classes[m'.cls]? = some K) (hin : K.init = .initialized)
    (hy : y.cls ≠ "java/lang/invoke/MethodHandle" ∧ y.cls ≠ "java/lang/invoke/VarHandle") {g : JFrame} (hg : g.method = m) {aL rest : List Value} (hlen : aL.length = M.sig.parameters.length) (hs : g.stack = aL.reverse ++ rest)
    (hd : decode c.code g.pc = .ok (.invokestatic i, 3)) :
    ∃ vm', own_N l e s B below F m c (T.setVm vm') n1 n2 ∧ ∀ t, (∀ acts, Steps p.tables e below (doInvoke e ((T.setVm vm').setTop { g with stack := rest }) acts m' aL.toArray).1 t) → Steps p.tables e below (T.setTop g) t := by
  have hpv : e.platform.polymorphicOnlyByInvokevirtual = true := by rw [X.admits.platform]
  obtain ⟨ci, ml, mr⟩ := Cond.methodLink_spec hown hn hl e.platform (by rw [X.admits.platform])
  obtain ⟨K1, q1, q2⟩ := className_of_methodNamed hn
  cases hK.symm.trans q1
  have E : s.MethodEntry e T.vm m.cls i m' ci := State.methodEntry X.warmed ml mr fun k hk => by cases hK.symm.trans hk; rw [q2]; exact hy
  obtain ⟨D, cf, nt, nm, ds, via, K2, _, a1, a2, a3, a4, -, -, a5, -, a6, -⟩ := ml.here
  cases hK.symm.trans a5
  obtain ⟨D2, b1, b2⟩ := E.warmed.alike.2.2 _ _ a1
  obtain ⟨K3, b3, b4⟩ := E.warmed.alike.2.2 _ _ hK
  have z1 : (K.methods.any fun w => w.name == nm && !w.isStatic && signaturePolymorphic K w) = false := by simp [a6]
  have z2 : (K3.methods.any fun w => w.name == nm && !w.isStatic && signaturePolymorphic K3 w) = false := by rw [b4]; exact z1
  refine ⟨_, X.noted E.warmed, fun t k => ?_⟩
  subst hg
  jvm_step X.here [hx, hd, invokestatic.wp_cold (e := e) (s := T) (s₀ := s) (f := g) X.here.top hpv X.warmed E a1 a2 a3 a4 hK z1,
    invokestatic.wp_ready (e := e) (s := T.setVm (T.vm.called g.method.cls ci i m')) (k := K3) (meth := M) (m := m') (args := aL) (rest := rest) (f := g) X.here.top
      ⟨ci, nm, ds, via, m'.cls, K3, memberRef_ask_via (e := e) b1 (by rw [b2]; exact a2) a3 a4, E.classReady, b3, z2⟩ E.ready b3 (by show (T.vm.called g.method.cls ci i m').method? m' = some M; rw [E.warmed.alike.method?]; exact hM)
      (by rw [b4]; exact a6 M) hst (by rw [b4]; exact hin) hlen hs]
  exact fun acts => k _
theorem own_namedAlike {vm' : Vm} (hal : s.vm.Alike vm') {y : MethodName} {m' : MethodId} (hn : s.methodNamed? y = some m') : (T.setVm vm').methodNamed? y = some m' := by
  rw [State.methodNamed?_of_vm (U := T.setVm vm') (V := s.setVm vm') rfl, State.methodNamed?_setVm hal]; exact hn
theorem own_N.scall (X : own_N l e s B below F m c T n1 n2) (hx : p.tables.exec = Jvm.exec) {own : String} {i : Nat} {y : MethodName} {bytes : ByteArray} {maxL : Nat} {ret : Option FieldType} (hown : s.vm.findClass own = some m.cls)
    (hl : (Cond.methodLink own i y).before args s = true) (hst : (Cond.static y).before args s = true) (hin : (Cond.initialized y.cls).before args s = true) (hcd : (Cond.code y bytes maxL ret).before args s = true) (hpl : plainFor y = true)
    (hy : y.cls ≠ "java/lang/invoke/MethodHandle" ∧ y.cls ≠ "java/lang/invoke/VarHandle") {g : JFrame} (hg : g.method = m) {aL rest : List Value} (hlen : ∀ sig, parseMethodDescriptor y.desc = some sig → aL.length = sig.parameters.length)
    (hs : g.stack = aL.reverse ++ rest) (hd : decode c.code g.pc = .ok (.invokestatic i, 3)) (h1 : 2 ≤ n1) {w : Nat} (hw : g.locals.size + 11 + 2 * g.monitorRoom + operandWords rest = w) (h2 : w + maxL + 11 ≤ n2) :
    ∃ (m' : MethodId) (M : Method) (cd : Code) (U : State), own_N l e s T below (.java { g with stack := rest } :: F) m' cd U (n1 - 1) (n2 - w) ∧ s.vm.findClass y.cls = some m'.cls ∧ s.vm.method? m' = some M ∧ M.locks = false ∧ M.sig.returnType = ret ∧ cd.code = bytes ∧
      (∀ t, Steps p.tables e below (U.setTop (entryFrame m' aL.toArray maxL)) t → Steps p.tables e below (T.setTop g) t) := by
  obtain ⟨m', hn⟩ := Cond.code_named hcd
  obtain ⟨M, cd, hM, hc, hb, hmx, hr, hlk, -, hsig⟩ := Cond.code_spec hn hcd
  obtain ⟨K, hK, -⟩ := className_of_methodNamed hn
  obtain ⟨vm', X', k⟩ := X.inv hx hown hl hn hM (Cond.static_spec hn hM hst) hK (Cond.initialized_spec (findClass_of_methodNamed hn) hK hin) hy hg (hlen _ hsig) hs hd
  have hal := X'.warmed.alike
  have hM' : (T.setVm vm').vm.method? m' = some M := by rw [hal.method?]; exact hM
  have hn' : (T.setVm vm').methodNamed? y = some m' := by have := hal; exact own_namedAlike hal hn
  have hA : At (T.setVm vm') ({ g with stack := rest } : JFrame).method c below := by show At (T.setVm vm') g.method c below; rw [hg]; exact X'.here
  have hE := hA.enter aL.toArray hM' hc (State.plainMethod.of_named hpl hn' hM')
  have hf := frames_entered (g := ({ g with stack := rest } : JFrame)) X'.here.top (.java (entryFrame m' aL.toArray cd.maxLocals))
  refine ⟨m', M, cd, _, ⟨X.admits, hE, ?_, X'.warmed, ?_, ?_, ?_, ?_⟩, findClass_of_methodNamed hn, hM, hlk, hr, hb, fun t kk => k t fun acts => ?_⟩
  · rw [hf, X'.tail]; rfl
  · obtain ⟨mid, hmid⟩ := X.mid
    exact ⟨.java { g with stack := rest } :: mid, by rw [hmid]; rfl⟩
  · have := X'.l1
    rw [State.stackLimits_pushFrame, State.stackLimits_setTop _ X'.here.top, List.length_cons]; omega
  · have := X'.l2
    rw [State.stackLimits_pushFrame, State.stackLimits_setTop _ X'.here.top, stackUse_java]; dsimp only; omega
  · obtain ⟨g0, hg0⟩ := Option.isSome_iff_exists.mp X'.here.top
    obtain ⟨r, hr0⟩ := State.topJava?_eq_some.mp hg0
    exact ⟨vm', _, by rw [State.pushFrame, State.setTop_of_frames _ hr0, State.setFrames_setFrames]⟩
  · rw [doInvoke_enter X'.here.top acts hM' hc hlk (X'.full h1 (by rw [hmx]; dsimp only; omega)), hmx]
    rw [hmx] at kk
    exact kk
theorem own_N.back (Y : own_N l e s T below (.java g :: F) m' cd U k1 k2) (X : own_N l e s B below F g.method c T n1 n2) {f : JFrame} {M : Method} (hM : s.vm.method? f.method = some M) (hl : M.locks = false) (hlo : f.locked = none) (hen : f.entered = [])
    {ig : Instr} {len : Nat} (hdg : decode c.code g.pc = .ok (ig, len)) {v : Option Value} (acts : List Action) :
    (doReturn e (U.setTop f) acts v).1 = (T.setVm U.vm).setTop { g with pc := g.pc + len, stack := v.toList ++ g.stack } := by
  obtain ⟨f0, hf0⟩ := Option.isSome_iff_exists.mp Y.here.top
  obtain ⟨r, hr⟩ := State.topJava?_eq_some.mp hf0
  have hr' : r = .java g :: F := by have := Y.tail; rw [hr] at this; exact this
  subst hr'
  have hcg : U.code? g.method = some c := by
    have h := X.here.code
    rw [State.code?_eq] at h ⊢
    rw [Y.warmed.alike.method?]; rw [X.warmed.alike.method?] at h; exact h
  rw [doReturn_leave (g := g) (meth := M) (cg := c) (ig := ig) (len := len) acts hr (by rw [Y.warmed.alike.method?]; exact hM) hl hlo hen hcg hdg]
  obtain ⟨vv, fs, hU⟩ := Y.base
  obtain ⟨t0, ht0⟩ := Option.isSome_iff_exists.mp X.here.top
  obtain ⟨q, hq⟩ := State.topJava?_eq_some.mp ht0
  have hq' : q = F := by have := X.tail; rw [hq] at this; exact this
  subst hq'
  have e1 : U.setFrames (.java g :: q) = (T.setVm U.vm).setFrames (.java g :: q) := by
    have : U.vm = vv := by rw [hU]; rfl
    rw [this, hU, State.setFrames_setFrames]
  have hc2 : (T.setVm U.vm).cur < (T.setVm U.vm).threads.size := State.cur_lt_of_frames hq
  rw [e1, State.setTop_of_frames _ (State.frames_setFrames _ hc2), State.setFrames_setFrames, State.setTop_of_frames (s := T.setVm U.vm) _ hq]
theorem own_N.raw (X : own_N l e s B below F m c T n1 n2) (hx : p.tables.exec = Jvm.exec) {own : String} {i : Nat} (hown : s.vm.findClass own = some m.cls) (hl : (Cond.methodLink own i doubleToRawLongBitsName).before args s = true)
    (hna : (Cond.native doubleToRawLongBitsName).before args s = true) (hst : (Cond.static doubleToRawLongBitsName).before args s = true) (hin : (Cond.initialized "java/lang/Double").before args s = true) {g : JFrame} (hg : g.method = m) {rest : List Value} {b : UInt64}
    (hs : g.stack = .double b :: rest) (hd : decode c.code g.pc = .ok (.invokestatic i, 3)) (h1 : 2 ≤ n1) (h2 : g.locals.size + 11 + 2 * g.monitorRoom + operandWords rest + 4 + 11 ≤ n2) :
    ∃ vm', own_N l e s B below F m c (T.setVm vm') n1 n2 ∧ ∀ t, Steps p.tables e below ((T.setVm vm').setTop { g with pc := g.pc + 3, stack := .long b.toInt64 :: rest }) t → Steps p.tables e below (T.setTop g) t := by
  obtain ⟨r, K, M, q1, q2, q3, N⟩ := NativeOf.of_static hna hst (ps := [.double]) (ret := some .long) (by decide +kernel)
  obtain ⟨vm', X', k⟩ := X.inv hx hown hl q1 q2 N.static q3 (Cond.initialized_spec (findClass_of_methodNamed q1) q3 hin) (by decide) hg (aL := [.double b]) (rest := rest) (by rw [N.sig]; rfl) hs hd
  refine ⟨vm', X', fun t kk => k t fun acts => ?_⟩
  subst hg
  obtain ⟨K', N'⟩ := N.alike X'.warmed.alike
  exact Steps.doubleToRawLongBitsOf (g := { g with stack := rest }) (ig := .invokestatic i) (len := 3) p X'.here acts N' b (X'.full (g := { g with stack := rest }) h1 (by rw [nativeFrameWords_plain 2 (by decide)]; dsimp only; omega)) hd kk
theorem own_N.bits (X : own_N l e s B below F m c T n1 n2) (hx : p.tables.exec = Jvm.exec) {own : String} {i : Nat} (hown : s.vm.findClass own = some m.cls) (hl : (Cond.methodLink own i longBitsToDoubleName).before args s = true)
    (hna : (Cond.native longBitsToDoubleName).before args s = true) (hst : (Cond.static longBitsToDoubleName).before args s = true) (hin : (Cond.initialized "java/lang/Double").before args s = true) {g : JFrame} (hg : g.method = m) {rest : List Value} {b : Int64}
    (hv : (b.toUInt64 &&& 0x7fffffffffffffff > 0x7ff0000000000000 && b.toUInt64 &&& 0x0008000000000000 == 0) = false)
    (hs : g.stack = .long b :: rest) (hd : decode c.code g.pc = .ok (.invokestatic i, 3)) (h1 : 2 ≤ n1) (h2 : g.locals.size + 11 + 2 * g.monitorRoom + operandWords rest + 4 + 11 ≤ n2) :
    ∃ vm', own_N l e s B below F m c (T.setVm vm') n1 n2 ∧ ∀ t, Steps p.tables e below ((T.setVm vm').setTop { g with pc := g.pc + 3, stack := .double b.toUInt64 :: rest }) t → Steps p.tables e below (T.setTop g) t := by
  obtain ⟨r, K, M, q1, q2, q3, N⟩ := NativeOf.of_static hna hst (ps := [.long]) (ret := some .double) (by decide +kernel)
  obtain ⟨vm', X', k⟩ := X.inv hx hown hl q1 q2 N.static q3 (Cond.initialized_spec (findClass_of_methodNamed q1) q3 hin) (by decide) hg (aL := [.long b]) (rest := rest) (by rw [N.sig]; rfl) hs hd
  refine ⟨vm', X', fun t kk => k t fun acts => ?_⟩
  subst hg
  obtain ⟨K', N'⟩ := N.alike X'.warmed.alike
  exact Steps.longBitsToDoubleOf (g := { g with stack := rest }) (ig := .invokestatic i) (len := 3) p X'.here acts N' b (X'.full (g := { g with stack := rest }) h1 (by rw [nativeFrameWords_plain 2 (by decide)]; dsimp only; omega)) hv hd kk
theorem own_cast {tb : Tables} {m : MethodId} {pc : Nat} {L : Array Slot} {v w : Value} {S : List Value} {t : State} (h : v = w) (k : Steps tb e below (T.setTop (mkF m pc L (w :: S))) t) : Steps tb e below (T.setTop (mkF m pc L (v :: S))) t := by subst h; exact k
theorem own_N.retI (Y : own_N l e s T below (.java g :: F) m' cd U k1 k2) (X : own_N l e s B below F g.method c T n1 n2) (hx : p.tables.exec = Jvm.exec) {M : Method} (hM : s.vm.method? m' = some M) (hl : M.locks = false) (hr : M.sig.returnType = some .int) {pc : Nat} {L : Array Slot} {v : Int32} {S : List Value}
    (hd : decode cd.code pc = .ok (.ireturn, 1)) {ig : Instr} {len : Nat} (hdg : decode c.code g.pc = .ok (ig, len)) {t : State} (k : Steps p.tables e below ((T.setVm U.vm).setTop { g with pc := g.pc + len, stack := .int v :: g.stack }) t) : Steps p.tables e below (U.setTop (mkF m' pc L (.int v :: S))) t := by
  have hM' : U.vm.method? m' = some M := by rw [Y.warmed.alike.method?]; exact hM
  unfold mkF
  jvm_step Y.here [Y.here.top, hx, hd, hM', hr, narrow]
  intro acts
  rw [Y.back X hM hl rfl rfl hdg]
  exact k
theorem own_N.retD (Y : own_N l e s T below (.java g :: F) m' cd U k1 k2) (X : own_N l e s B below F g.method c T n1 n2) (hx : p.tables.exec = Jvm.exec) {M : Method} (hM : s.vm.method? m' = some M) (hl : M.locks = false) (hr : M.sig.returnType = some .double) {pc : Nat} {L : Array Slot} {v : UInt64} {S : List Value}
    (hd : decode cd.code pc = .ok (.dreturn, 1)) {ig : Instr} {len : Nat} (hdg : decode c.code g.pc = .ok (ig, len)) {t : State} (k : Steps p.tables e below ((T.setVm U.vm).setTop { g with pc := g.pc + len, stack := .double v :: g.stack }) t) : Steps p.tables e below (U.setTop (mkF m' pc L (.double v :: S))) t := by
  have hM' : U.vm.method? m' = some M := by rw [Y.warmed.alike.method?]; exact hM
  unfold mkF
  jvm_step Y.here [Y.here.top, hx, hd, hM', hr, narrow]
  intro acts
  rw [Y.back X hM hl rfl rfl hdg]
  exact k
end OwnCeil

section OwnCeil2
open Jvm.Free.Hsc Jvm.Free.Fl
variable {p : Program} {l : Launch} {e : Env} {R : Room} {s : State} {m : MethodId} {args : Array Value} {below : List Frame} {meth : Method} {c : Code} {T : State} {locs : List Loc} {cells slots : Nat}
theorem own_N.retNat {B U : State} {F : List Frame} {m' : MethodId} {cd : Code} {k1 k2 : Nat} {nf : NFrame} (Y : own_N l e s B below (.native nf :: F) m' cd U k1 k2) (hx : p.tables.exec = Jvm.exec) {M : Method} (hM : s.vm.method? m' = some M) (hl : M.locks = false) (hr : M.sig.returnType = some .double) {pc : Nat} {L : Array Slot} {v : UInt64} {S : List Value}
    (hd : decode cd.code pc = .ok (.dreturn, 1)) {t : State} (k : Steps p.tables e below (U.setFrames (.native { nf with awaiting := false, answer := some (.returned (some (.double v))) } :: F)) t) : Steps p.tables e below (U.setTop (mkF m' pc L (.double v :: S))) t := by
  have hM' : U.vm.method? m' = some M := by rw [Y.warmed.alike.method?]; exact hM
  obtain ⟨f0, hf0⟩ := Option.isSome_iff_exists.mp Y.here.top
  obtain ⟨r, hr0⟩ := State.topJava?_eq_some.mp hf0
  have hr' : r = .native nf :: F := by have := Y.tail; rw [hr0] at this; exact this
  subst hr'
  unfold mkF
  jvm_step Y.here [Y.here.top, hx, hd, hM', hr, narrow]
  intro acts
  rw [(doReturn_plain (e := e) (acts := acts) (v := some (.double v)) (State.frames_setTop _ hr0) (by simpa using hM') hl rfl rfl rfl).1, State.setTop_of_frames _ hr0, State.setFrames_setFrames]
  exact k
theorem own_opw (S : List Value) : operandWords S = (S.map fun v => v.category).sum := by
  have h : ∀ (S : List Value) (n : Nat), S.foldl (fun n v => n + v.category) n = n + (S.map fun v => v.category).sum := by
    intro S
    induction S with
    | nil => intro n; simp
    | cons a S ih => intro n; simp only [List.foldl_cons, List.map_cons, List.sum_cons]; rw [ih]; omega
  unfold operandWords; rw [h]; omega
set_option maxHeartbeats 4000000 in
theorem own_ceilAt (X : Stand p l e R s m args below meth c T locs cells slots) (hx : p.tables.exec = Jvm.exec) {own : String} {i : Nat} {b r : UInt64} {bM : ByteArray} (hown : s.vm.findClass own = some m.cls)
    (hl : (Cond.methodLink own i ⟨"java/lang/Math", "ceil", "(D)D"⟩).before args s = true) (hst : (Cond.static ⟨"java/lang/Math", "ceil", "(D)D"⟩).before args s = true) (hin : (Cond.initialized "java/lang/Math").before args s = true) (hcd : (Cond.code ⟨"java/lang/Math", "ceil", "(D)D"⟩ bM 2 (some .double)).before args s = true)
    (hinS : (Cond.initialized "java/lang/StrictMath").before args s = true) (hcdS : (Cond.code ⟨"java/lang/StrictMath", "ceil", "(D)D"⟩ jdk_128_method_16_code 2 (some .double)).before args s = true)
    (hS : Sta s T.heap "java/lang/StrictMath" "$assertionsDisabled" "Z" (.int 1)) (hn : r &&& 0x7fffffffffffffff ≤ 0x7ff0000000000000)
    (hd9 : decode jdk_128_method_16_code 9 = .ok (.dreturn, 1))
    (walk : ∀ {m' : MethodId} {cd : Code} {F : List Frame} {U B : State} {n1 n2 : Nat}, own_N l e s B below F m' cd U n1 n2 → s.vm.findClass "java/lang/StrictMath" = some m'.cls → Sta s B.heap "java/lang/StrictMath" "$assertionsDisabled" "Z" (.int 1) → U.heap = B.heap → cd.code = jdk_128_method_16_code → 5 ≤ n1 → 130 ≤ n2 →
      ∃ vm', own_N l e s B below F m' cd (U.setVm vm') n1 n2 ∧ ∀ t, Steps p.tables e below ((U.setVm vm').setTop (mkF m' 9 #[.val (.double b), .second] [.double r])) t → Steps p.tables e below (U.setTop (mkF m' 0 #[.val (.double b), .second] [])) t)
    {g : JFrame} (hg : g.method = m) (hsize : g.locals.size = c.maxLocals) {rest : List Value} (hs : g.stack = .double b :: rest) (hd : decode c.code g.pc = .ok (.invokestatic i, 3)) (hfr : 7 ≤ R.frames) (hlo : 2 * g.monitorRoom + (rest.map fun v => v.category).sum + 130 ≤ R.locals) :
    ∃ vm', Stand p l e R s m args below meth c (T.setVm vm') locs cells slots ∧ ∀ t, Steps p.tables e below ((T.setVm vm').setTop { g with pc := g.pc + 3, stack := .double r :: rest }) t → Steps p.tables e below (T.setTop g) t := by
  obtain ⟨mk, hnk⟩ := Cond.code_named hcd
  obtain ⟨M, cM, hM, hcM, hbM, hmx, hrM, hlkM, -, hsigM⟩ := Cond.code_spec hnk hcd
  obtain ⟨kM, hkM, hkn⟩ := className_of_methodNamed hnk
  have hpar : M.sig.parameters.length = 1 := by
    have h2 : parseMethodDescriptor "(D)D" = some { parameters := [.double], returnType := some .double } := by decide +kernel
    have h3 := hsigM.symm.trans h2
    rw [Option.some.inj h3]; rfl
  obtain ⟨vm1, X1, k1⟩ := X.invokestatic hx hown hl hnk hM (Cond.static_spec hnk hM hst) hkM (Cond.initialized_spec (findClass_of_methodNamed hnk) hkM hin) (by decide) hg (argsL := [.double b]) (rest := rest) (by rw [hpar]; rfl) hs hd
  obtain ⟨mS, hnS⟩ := Cond.code_named hcdS
  obtain ⟨MS, cS, hMS, hcS, hbS, hmS, hrS, hlkS, -, -⟩ := Cond.code_spec hnS hcdS
  obtain ⟨kS, hkS, -⟩ := className_of_methodNamed hnS
  have hiS : kS.init = .initialized := Cond.initialized_spec (findClass_of_methodNamed hnS) hkS hinS
  have hfm : kS.findMethod "ceil" "(D)D" = some mS.idx := by
    have h := hnS
    simp only [State.methodNamed?, Option.bind_eq_bind, Option.pure_def] at h
    rw [findClass_of_methodNamed hnS] at h
    simp only [Option.bind_some, hkS] at h
    cases hq : kS.findMethod "ceil" "(D)D" with
    | none => rw [hq] at h; cases h
    | some j => rw [hq] at h; simp at h; rw [← h]
  obtain ⟨hnm, hdm⟩ := name_of_methodNamed hnk hM
  have hbt : kM.loader = none := Vm.bootOf_findClass (findClass_of_methodNamed hnk) hkM
  have hxk : kM.methods[mk.idx]? = some M := by simpa [Vm.method?, hkM] using hM
  generalize hUd : T.setVm vm1 = U at X1 k1
  have hal := X1.warmed.alike
  obtain ⟨kM1, hkM1, ekM⟩ := hal.2.2 _ _ hkM
  obtain ⟨kS1, hkS1, ekS⟩ := hal.2.2 _ _ hkS
  have hM1 : U.vm.method? mk = some M := by rw [hal.method?]; exact hM
  have hMS1 : U.vm.method? mS = some MS := by rw [hal.method?]; exact hMS
  have hnS1 : U.methodNamed? ⟨"java/lang/StrictMath", "ceil", "(D)D"⟩ = some mS := X1.named hnS
  have hfS : U.vm.findClass "java/lang/StrictMath" = some mS.cls := findClass_of_methodNamed hnS1
  obtain ⟨g0, hg0⟩ := Option.isSome_iff_exists.mp X1.here.top
  obtain ⟨r0, hr⟩ := State.topJava?_eq_some.mp hg0
  have hr0 : r0 = below := by have := X1.tail; rw [hr] at this; exact this
  subst hr0
  have hcur : U.cur < U.threads.size := State.cur_lt_of_frames hr
  obtain ⟨g1, hg1⟩ : ∃ z : JFrame, z = { g with stack := rest } := ⟨_, rfl⟩
  rw [← hg1] at k1
  obtain ⟨nf, hnf⟩ : ∃ z : NFrame, z = { method := mk, args := #[.double b], stage := 1, saved := #[], awaiting := true, answer := none, words := 0 } := ⟨_, rfl⟩
  obtain ⟨-, q2, -, q4⟩ := State.hasRoom_stack X1.room
  rw [State.localsInUse_invoking X1.frames X1.method X1.code] at q4
  rw [X1.frames, List.length_cons, ← X1.limits] at q2
  rw [← X1.limits] at q4
  have hwt := stackUse_le_stackWeight r0
  have how : operandWords rest = (rest.map fun v => v.category).sum := own_opw rest
  have hg1s : g1.locals.size + 11 + 2 * g1.monitorRoom + operandWords g1.stack = c.maxLocals + 11 + 2 * g.monitorRoom + operandWords rest := by rw [hg1]; dsimp only; rw [hsize]
  have hF : stackUse (Frame.native nf :: Frame.java g1 :: r0) = ((stackUse r0).1 + 1 + 1, (stackUse r0).2 + (g1.locals.size + 11 + 2 * g1.monitorRoom + operandWords g1.stack)) := by
    rw [stackUse_light _ _ (fun f h => by cases h) (by rw [hnf]; rfl), stackUse_java]
  have hf3 : (U.setFrames (.java (entryFrame mS #[.double b] 2) :: .native nf :: .java g1 :: r0)).frames = .java (entryFrame mS #[.double b] 2) :: .native nf :: .java g1 :: r0 := State.frames_setFrames _ hcur
  have Y0 : own_N l e s U r0 (.native nf :: .java g1 :: r0) mS cS (U.setFrames (.java (entryFrame mS #[.double b] 2) :: .native nf :: .java g1 :: r0)) 5 130 := by
    refine ⟨X.admits, ⟨by rw [State.topJava?_of_frames hf3]; rfl, ⟨[.native nf, .java g1], by rw [hf3]; rfl⟩, X1.here.running, by simpa using X1.here.runnable, by simpa using X1.here.alone, by rw [State.code?_eq]; simp [State.setFrames, hMS1, hcS], ?_⟩, by rw [hf3]; rfl, X1.warmed, ⟨[.native nf, .java g1], rfl⟩, ?_, ?_, ⟨U.vm, _, rfl⟩⟩
    · exact State.plainMethod.of_named (s := U) (plainFor_of_name (by decide +kernel)) hnS1 hMS1
    · rw [State.stackLimits_setFrames]; simp only [List.length_cons]; omega
    · rw [State.stackLimits_setFrames, hF]; dsimp only; omega
  obtain ⟨vm2, Y2, k2⟩ := walk Y0 (findClass_of_methodNamed hnS) (by rw [← hUd]; exact hS) rfl hbS (Nat.le_refl _) (Nat.le_refl _)
  refine ⟨vm2, X.noted Y2.warmed, fun t kk => k1 t fun acts => ?_⟩
  have hfull := X1.notFull (g := g1) (by rw [hg1]; exact hsize) (vars := cM.maxLocals) (by omega) (by rw [hmx, hg1]; dsimp only; omega)
  rw [(doInvoke_java (s := U.setTop g1) (e := e) (acts := acts) (args := #[.double b]) (meth := M) (code := cM) (by simpa using hM1) hcM hlkM hfull).1, hmx]
  have hU1 : (U.setTop g1).pushFrame (.java { method := mk, pc := 0, locals := argsToLocals #[.double b] 2, stack := [], locked := none }) = U.setFrames (.java (entryFrame mk #[.double b] 2) :: .java g1 :: r0) := by
    rw [State.pushFrame, State.frames_setTop _ hr, State.setTop_of_frames _ hr, State.setFrames_setFrames]; rfl
  rw [hU1]
  have hf1 : (U.setFrames (.java (entryFrame mk #[.double b] 2) :: .java g1 :: r0)).frames = .java (entryFrame mk #[.double b] 2) :: .java g1 :: r0 := State.frames_setFrames _ hcur
  have hkn1 : kM1.name = "java/lang/Math" := by rw [ekM]; exact hkn
  have hbt1 : kM1.loader = none := by rw [ekM]; exact hbt
  have hxk1 : kM1.methods[mk.idx]? = some M := by rw [ekM]; exact hxk
  have hov : overridden p.tables e (U.setFrames (.java (entryFrame mk #[.double b] 2) :: .java g1 :: r0)) (entryFrame mk #[.double b] 2) = some ceilRow :=
    Jvm.Free.Fl.Abs.overridden_some (k := kM1) (x := M) rfl hkM1 (by rw [hkn1]; decide) hbt1 hxk1 (by rw [hkn1, hnm, hdm]; exact ceil_row p)
  obtain ⟨acts2, hrun⟩ := ceil_run b e (U.setFrames (.native { method := mk, args := #[.double b] } :: .java g1 :: r0)) (cS := mS.cls) (kS := kS1) (i := mS.idx) hfS hkS1 (by rw [ekS]; exact hiS) (by rw [ekS]; exact hfm)
  have hb3 : (U.vm.classes[mk.cls]?.bind fun x => x.methods[mk.idx]?) = some M := by simp [hkM1, hxk1]
  have hb2 : ∀ Fs : List Frame, ((U.setFrames Fs).vm.classes[mk.cls]?.bind fun y => y.methods[mk.idx]?) = some M := fun Fs => hb3
  have hw3 : ((U.vm.classes[mk.cls]?).bind fun k => Option.map (fun n => upcallWords k.name n.name) k.methods[mk.idx]?).getD 0 = 0 := by simp [hkM1, hxk1, hkn1, hnm, upcallWords]
  have hw2 : ∀ Fs : List Frame, (((U.setFrames Fs).vm.classes[mk.cls]?).bind fun k => (k.methods[mk.idx]?).map fun n => upcallWords k.name n.name).getD 0 = 0 := fun Fs => hw3
  have htk : ∀ n : Nat, List.take (1 + n) [Value.double b] = [Value.double b] := fun n => List.take_of_length_le (Nat.le_add_right 1 n)
  have hst2 : (stepThread p.tables e (U.setFrames (.java (entryFrame mk #[.double b] 2) :: .java g1 :: r0))).1 = (doInvoke e (U.setFrames (.native nf :: .java g1 :: r0)) acts2 mS #[.double b]).1 := by
    rw [hnf]
    unfold stepThread
    simp only [hf1, hov]
    simp [entryFrame, argsToLocals, Value.category, argCount, hb2, hb3, hpar, htk, hrun, afterNative, hw2, hw3, State.setFrames_setFrames]
  refine Steps.head ⟨X1.here.running, by simpa using X1.here.runnable, by simpa using X1.here.alone⟩ ⟨[.java (entryFrame mk #[.double b] 2), .java g1], by rw [hf1]; rfl, by simp, by simp⟩ ?_
  rw [hst2]
  have hf2 : (U.setFrames (.native nf :: .java g1 :: r0)).frames = .native nf :: .java g1 :: r0 := State.frames_setFrames _ hcur
  have hfull2 : e.platform.stackFull (((U.setFrames (.native nf :: .java g1 :: r0)).threads[(U.setFrames (.native nf :: .java g1 :: r0)).cur]?).getD { frames := [] }) (U.setFrames (.native nf :: .java g1 :: r0)).frames cS.maxLocals = false := by
    rw [hf2]
    refine Platform.stackFull_eq_false ?_ ?_
    · show _ < (e.platform.stackLimits (U.setFrames (.native nf :: .java g1 :: r0)).me).1
      rw [State.stackLimits_setFrames]; simp only [List.length_cons]; omega
    · show _ ≤ (e.platform.stackLimits (U.setFrames (.native nf :: .java g1 :: r0)).me).2
      rw [State.stackLimits_setFrames, hF, hmS]; dsimp only; omega
  rw [(doInvoke_java (s := U.setFrames (.native nf :: .java g1 :: r0)) (e := e) (acts := acts2) (args := #[.double b]) (meth := MS) (code := cS) hMS1 hcS hlkS hfull2).1, hmS]
  have hU3 : (U.setFrames (.native nf :: .java g1 :: r0)).pushFrame (.java { method := mS, pc := 0, locals := argsToLocals #[.double b] 2, stack := [], locked := none }) = (U.setFrames (.java (entryFrame mS #[.double b] 2) :: .native nf :: .java g1 :: r0)).setTop (mkF mS 0 #[.val (.double b), .second] []) := by
    rw [State.pushFrame, hf2, State.setFrames_setFrames, State.setTop_of_frames _ hf3, State.setFrames_setFrames]; rfl
  rw [hU3]
  refine k2 _ ?_
  refine own_N.retNat Y2 hx hMS hlkS hrS (by rw [hbS]; exact hd9) ?_
  have hV : ((U.setFrames (.java (entryFrame mS #[.double b] 2) :: .native nf :: .java g1 :: r0)).setVm vm2).setFrames (.native { nf with awaiting := false, answer := some (.returned (some (.double r))) } :: .java g1 :: r0) = (T.setVm vm2).setFrames (.native { nf with awaiting := false, answer := some (.returned (some (.double r))) } :: .java g1 :: r0) := by
    rw [← hUd]; exact State.setFrames_setFrames (s := T.setVm vm2) _ _
  rw [hV]
  obtain ⟨nf2, hnf2⟩ : ∃ z : NFrame, z = { nf with awaiting := false, answer := some (.returned (some (.double r))) } := ⟨_, rfl⟩
  rw [← hnf2]
  have hrT : (T.setVm vm2).frames = .java g0 :: r0 := by rw [← hUd] at hr; exact hr
  have hcT : (T.setVm vm2).cur < (T.setVm vm2).threads.size := State.cur_lt_of_frames hrT
  have hend : ((T.setVm vm2).setFrames (.native nf2 :: .java g1 :: r0)).frames = .native nf2 :: .java g1 :: r0 := State.frames_setFrames _ hcT
  have hal2 := Y2.warmed.alike
  obtain ⟨kM2, hkM2, ekM2⟩ := hal2.2.2 _ _ hkM
  obtain ⟨acts3, hr3⟩ := ceil_resume hn e ((T.setVm vm2).setFrames (.native nf2 :: .java g1 :: r0))
  have hcg : ((T.setVm vm2).setFrames (.native nf2 :: .java g1 :: r0)).code? g1.method = some c := by
    have h := (X.noted Y2.warmed).here.code
    rw [State.code?_eq] at h ⊢
    rw [show g1.method = m by rw [hg1]; exact hg]; exact h
  have hdg1 : decode c.code g1.pc = .ok (.invokestatic i, 3) := by rw [hg1]; exact hd
  have hfs : handOver ((T.setVm vm2).setFrames (.native nf2 :: .java g1 :: r0)) (some (.double r)) (.java g1 :: r0) = some (.java { g1 with pc := g1.pc + 3, stack := .double r :: g1.stack } :: r0) := by
    simp [handOver, hcg, hdg1, Except.toOption]
  have hm2 : nf2.method = mk := by rw [hnf2, hnf]
  have hst4 : (stepThread p.tables e ((T.setVm vm2).setFrames (.native nf2 :: .java g1 :: r0))).1 = ((T.setVm vm2).setFrames (.native nf2 :: .java g1 :: r0)).setFrames (.java { g1 with pc := g1.pc + 3, stack := .double r :: g1.stack } :: r0) := by
    rw [stepThread_resumed' (f := nf2) (o := .returned (some (.double r))) hend (k := kM2) (by rw [hm2]; exact hkM2) (by rw [ekM2]; exact hbt) (x := M) (by rw [hm2, ekM2]; exact hxk) (by rw [show kM2.name = "java/lang/Math" by rw [ekM2]; exact hkn, hnm, hdm]; exact ceil_row p) (by rw [hnf2])]
    have e1 : nf2.stage = 1 := by rw [hnf2, hnf]
    have e2 : nf2.saved = #[] := by rw [hnf2, hnf]
    rw [e1, e2, hr3]
    exact doReturn_native (f := nf2) hend (by rw [hnf2, hnf]) hfs
  have hXh := X.here
  refine Steps.head ⟨hXh.running, by simpa using hXh.runnable, by simpa using hXh.alone⟩ ⟨[.native nf2, .java g1], by rw [hend]; rfl, by simp, by simp⟩ ?_
  rw [hst4, State.setFrames_setFrames]
  rw [State.setTop_of_frames _ hrT] at kk
  rw [hg1]
  exact kk
theorem own_ceilZ (X : Stand p l e R s m args below meth c T locs cells slots) (hx : p.tables.exec = Jvm.exec) {own : String} {i : Nat} {b r : UInt64} {bM : ByteArray} {h : Heap} (eT : T.heap = h) (hown : s.vm.findClass own = some m.cls)
    (hl : (Cond.methodLink own i ⟨"java/lang/Math", "ceil", "(D)D"⟩).before args s = true) (hst : (Cond.static ⟨"java/lang/Math", "ceil", "(D)D"⟩).before args s = true) (hin : (Cond.initialized "java/lang/Math").before args s = true) (hcd : (Cond.code ⟨"java/lang/Math", "ceil", "(D)D"⟩ bM 2 (some .double)).before args s = true)
    (hinS : (Cond.initialized "java/lang/StrictMath").before args s = true) (hcdS : (Cond.code ⟨"java/lang/StrictMath", "ceil", "(D)D"⟩ jdk_128_method_16_code 2 (some .double)).before args s = true)
    (hS : Sta s h "java/lang/StrictMath" "$assertionsDisabled" "Z" (.int 1)) (hn : r &&& 0x7fffffffffffffff ≤ 0x7ff0000000000000)
    (hd9 : decode jdk_128_method_16_code 9 = .ok (.dreturn, 1))
    (walk : ∀ {m' : MethodId} {cd : Code} {F : List Frame} {U B : State} {n1 n2 : Nat}, own_N l e s B below F m' cd U n1 n2 → s.vm.findClass "java/lang/StrictMath" = some m'.cls → Sta s B.heap "java/lang/StrictMath" "$assertionsDisabled" "Z" (.int 1) → U.heap = B.heap → cd.code = jdk_128_method_16_code → 5 ≤ n1 → 130 ≤ n2 →
      ∃ vm', own_N l e s B below F m' cd (U.setVm vm') n1 n2 ∧ ∀ t, Steps p.tables e below ((U.setVm vm').setTop (mkF m' 9 #[.val (.double b), .second] [.double r])) t → Steps p.tables e below (U.setTop (mkF m' 0 #[.val (.double b), .second] [])) t)
    {g : JFrame} (hg : g.method = m) (hsize : g.locals.size = c.maxLocals) {rest : List Value} (hs : g.stack = .double b :: rest) (hd : decode c.code g.pc = .ok (.invokestatic i, 3)) (hfr : 7 ≤ R.frames) (hlo : 2 * g.monitorRoom + (rest.map fun v => v.category).sum + 130 ≤ R.locals) :
    ∃ T', Stand p l e R s m args below meth c T' locs cells slots ∧ T'.heap = h ∧ ∀ t, Steps p.tables e below (T'.setTop { g with pc := g.pc + 3, stack := .double r :: rest }) t → Steps p.tables e below (T.setTop g) t := by
  subst eT
  obtain ⟨vm', X', k⟩ := own_ceilAt X hx hown hl hst hin hcd hinS hcdS hS hn hd9 walk hg hsize hs hd hfr hlo
  exact ⟨_, X', rfl, k⟩
end OwnCeil2

def own_Q_own_rmax (Z : State) (q0 : Int64) (q1 : Int64) (h0 : Heap) (n0 : Nat) : Option Value → Heap → List Loc → Prop := fun v h L => v = some (.long (own_max q0 q1)) ∧ Fr n0 L ∧ h = h0
theorem own_ef_own_rmax (m : MethodId) (x0 : Int64) (x1 : Int64) : entryFrame m #[(.long x0), (.long x1)] 4 = mkF m 0 #[.val (.long x0), .second, .val (.long x1), .second] [] := by first | (simp [entryFrame, mkF, argsToLocals, Value.category]; done) | rfl
set_option maxRecDepth 65536 in
set_option maxHeartbeats 40000000 in
theorem own_rmax (l : Launch) (Z : State) (a0 : Array Value) (hw : ∀ d ∈ tables_1, d.before a0 Z = true) (ws : List Jvm.Cond) (q0 : Int64) (q1 : Int64) (h0 : Heap) (n0 : Nat) :
    MetFree l (⟨"java/lang/Math", "max", "(JJ)J"⟩ : MethodName) (head1 (Jvm.Cond.code (⟨"java/lang/Math", "max", "(JJ)J"⟩ : MethodName) jdk_29_method_66_code 4 (some .long) :: ws) ({ frames := 0, cells := 0, slots := 0, locals := 0 } : Room)) (fun a U => a = #[(.long q0), (.long q1)] ∧ Z.Warmed39 U.vm ∧ U.heap = h0) (fun _ _ _ _ _ => True) (fun _ U o U' => ∃ v L, o = .returned v ∧ (own_Q_own_rmax Z q0 q1 h0 n0) v U'.heap L ∧ FrameEnd U o U' L ({ frames := 0, cells := 0, slots := 0, locals := 0 } : Room).cells ({ frames := 0, cells := 0, slots := 0, locals := 0 } : Room).slots) := by
  refine MetFree.of_bodySF (Jvm.Free.JP.mathPlain rfl (by decide +kernel)) hisR ?_
  intro p e s m args below meth c s₁ Bd hml0 hP hK
  obtain ⟨rfl, hZ, hh⟩ := hP
  have hx := Bd.exec
  have hby := Bd.bytes
  have hml : c.maxLocals = 4 := hml0
  have hown : s.vm.findClass "java/lang/Math" = some m.cls := findClass_of_methodNamed Bd.named
  have hnm := (name_of_methodNamed Bd.named Bd.method).1
  have hlk : meth.locks = false := BodyLoose.notSynchronized Bd
  have X0 : Stand p l e ({ frames := 0, cells := 0, slots := 0, locals := 0 } : Room) s m #[(.long q0), (.long q1)] below meth c s₁ [] 0 0 := Stand.of_body Bd
  have e0 : s₁.heap = h0 := by rw [← hh, Bd.state]; rfl
  have N0 := Fr.nil n0
  show own_Ends p e below s (own_Q_own_rmax Z q0 q1 h0 n0) ({ frames := 0, cells := 0, slots := 0, locals := 0 } : Room).cells ({ frames := 0, cells := 0, slots := 0, locals := 0 } : Room).slots _
  refine own_by (V := s₁.setTop (mkF m 0 #[.val (.long q0), .second, .val (.long q1), .second] [])) (fun t k => castTop (own_ef_own_rmax m q0 q1) k) ?_
  refine own_by (V := s₁.setTop (mkF m 1 #[.val (.long q0), .second, .val (.long q1), .second] [(.long q0)])) (fun t k => XS.lloadN X0.here hx rfl (hb hby own_d_jdk_29_66_0) rfl  k) ?_
  refine own_by (V := s₁.setTop (mkF m 2 #[.val (.long q0), .second, .val (.long q1), .second] [(.long q1), (.long q0)])) (fun t k => XS.lloadN X0.here hx rfl (hb hby own_d_jdk_29_66_1) rfl  k) ?_
  refine own_by (V := s₁.setTop (mkF m 3 #[.val (.long q0), .second, .val (.long q1), .second] [(.int (lcmpW q0 q1))])) (fun t k => XS.lcmp X0.here hx rfl (hb hby own_d_jdk_29_66_2) rfl k) ?_
  by_cases hb3_1 : (lcmpW q0 q1) < (0 : Int32)
  · refine own_by (V := s₁.setTop (mkF m 10 #[.val (.long q0), .second, .val (.long q1), .second] [])) (fun t k => XS.ifYes X0.here hx rfl (pc0 := 3) (pc' := 10) rfl (hb hby own_d_jdk_29_66_3) rfl ((if0 _ _).trans (tlt hb3_1).1) (by decide) (by decide) k) ?_
    refine own_by (V := s₁.setTop (mkF m 11 #[.val (.long q0), .second, .val (.long q1), .second] [(.long q1)])) (fun t k => XS.lloadN X0.here hx rfl (hb hby own_d_jdk_29_66_10) rfl  k) ?_
    refine own_retL X0 hx hlk e0 Bd.returns (hb hby own_d_jdk_29_66_11) ?_ (by decide) (by decide)
    exact ⟨congrArg (fun z => some (Value.long z)) (show q1 = (own_max q0 q1) from by unfold own_max; first | exact (if_pos ((own_lc _ _).1.mp hb3_1)).symm | exact (if_neg (fun u => hb3_1 ((own_lc _ _).1.mpr u))).symm), N0, rfl⟩
  · refine own_by (V := s₁.setTop (mkF m 6 #[.val (.long q0), .second, .val (.long q1), .second] [])) (fun t k => XS.ifNo X0.here hx rfl (hb hby own_d_jdk_29_66_3) rfl ((if0 _ _).trans (flt hb3_1).1) k) ?_
    refine own_by (V := s₁.setTop (mkF m 7 #[.val (.long q0), .second, .val (.long q1), .second] [(.long q0)])) (fun t k => XS.lloadN X0.here hx rfl (hb hby own_d_jdk_29_66_6) rfl  k) ?_
    refine own_by (V := s₁.setTop (mkF m 11 #[.val (.long q0), .second, .val (.long q1), .second] [(.long q0)])) (fun t k => XS.goto X0.here hx rfl (pc0 := 7) (pc' := 11) rfl (hb hby own_d_jdk_29_66_7) (by decide) (by decide) k) ?_
    refine own_retL X0 hx hlk e0 Bd.returns (hb hby own_d_jdk_29_66_11) ?_ (by decide) (by decide)
    exact ⟨congrArg (fun z => some (Value.long z)) (show q0 = (own_max q0 q1) from by unfold own_max; first | exact (if_pos ((own_lc _ _).1.mp hb3_1)).symm | exact (if_neg (fun u => hb3_1 ((own_lc _ _).1.mpr u))).symm), N0, rfl⟩
def own_Q_own_rmin (Z : State) (q0 : Int64) (q1 : Int64) (h0 : Heap) (n0 : Nat) : Option Value → Heap → List Loc → Prop := fun v h L => v = some (.long (own_min q0 q1)) ∧ Fr n0 L ∧ h = h0
theorem own_ef_own_rmin (m : MethodId) (x0 : Int64) (x1 : Int64) : entryFrame m #[(.long x0), (.long x1)] 4 = mkF m 0 #[.val (.long x0), .second, .val (.long x1), .second] [] := by first | (simp [entryFrame, mkF, argsToLocals, Value.category]; done) | rfl
set_option maxRecDepth 65536 in
set_option maxHeartbeats 40000000 in
theorem own_rmin (l : Launch) (Z : State) (a0 : Array Value) (hw : ∀ d ∈ tables_1, d.before a0 Z = true) (ws : List Jvm.Cond) (q0 : Int64) (q1 : Int64) (h0 : Heap) (n0 : Nat) :
    MetFree l (⟨"java/lang/Math", "min", "(JJ)J"⟩ : MethodName) (head1 (Jvm.Cond.code (⟨"java/lang/Math", "min", "(JJ)J"⟩ : MethodName) jdk_29_method_70_code 4 (some .long) :: ws) ({ frames := 0, cells := 0, slots := 0, locals := 0 } : Room)) (fun a U => a = #[(.long q0), (.long q1)] ∧ Z.Warmed39 U.vm ∧ U.heap = h0) (fun _ _ _ _ _ => True) (fun _ U o U' => ∃ v L, o = .returned v ∧ (own_Q_own_rmin Z q0 q1 h0 n0) v U'.heap L ∧ FrameEnd U o U' L ({ frames := 0, cells := 0, slots := 0, locals := 0 } : Room).cells ({ frames := 0, cells := 0, slots := 0, locals := 0 } : Room).slots) := by
  refine MetFree.of_bodySF (Jvm.Free.JP.mathPlain rfl (by decide +kernel)) hisR ?_
  intro p e s m args below meth c s₁ Bd hml0 hP hK
  obtain ⟨rfl, hZ, hh⟩ := hP
  have hx := Bd.exec
  have hby := Bd.bytes
  have hml : c.maxLocals = 4 := hml0
  have hown : s.vm.findClass "java/lang/Math" = some m.cls := findClass_of_methodNamed Bd.named
  have hnm := (name_of_methodNamed Bd.named Bd.method).1
  have hlk : meth.locks = false := BodyLoose.notSynchronized Bd
  have X0 : Stand p l e ({ frames := 0, cells := 0, slots := 0, locals := 0 } : Room) s m #[(.long q0), (.long q1)] below meth c s₁ [] 0 0 := Stand.of_body Bd
  have e0 : s₁.heap = h0 := by rw [← hh, Bd.state]; rfl
  have N0 := Fr.nil n0
  show own_Ends p e below s (own_Q_own_rmin Z q0 q1 h0 n0) ({ frames := 0, cells := 0, slots := 0, locals := 0 } : Room).cells ({ frames := 0, cells := 0, slots := 0, locals := 0 } : Room).slots _
  refine own_by (V := s₁.setTop (mkF m 0 #[.val (.long q0), .second, .val (.long q1), .second] [])) (fun t k => castTop (own_ef_own_rmin m q0 q1) k) ?_
  refine own_by (V := s₁.setTop (mkF m 1 #[.val (.long q0), .second, .val (.long q1), .second] [(.long q0)])) (fun t k => XS.lloadN X0.here hx rfl (hb hby own_d_jdk_29_70_0) rfl  k) ?_
  refine own_by (V := s₁.setTop (mkF m 2 #[.val (.long q0), .second, .val (.long q1), .second] [(.long q1), (.long q0)])) (fun t k => XS.lloadN X0.here hx rfl (hb hby own_d_jdk_29_70_1) rfl  k) ?_
  refine own_by (V := s₁.setTop (mkF m 3 #[.val (.long q0), .second, .val (.long q1), .second] [(.int (lcmpW q0 q1))])) (fun t k => XS.lcmp X0.here hx rfl (hb hby own_d_jdk_29_70_2) rfl k) ?_
  by_cases hb3_1 : (0 : Int32) < (lcmpW q0 q1)
  · refine own_by (V := s₁.setTop (mkF m 10 #[.val (.long q0), .second, .val (.long q1), .second] [])) (fun t k => XS.ifYes X0.here hx rfl (pc0 := 3) (pc' := 10) rfl (hb hby own_d_jdk_29_70_3) rfl ((if0 _ _).trans (tlt hb3_1).2.2.1) (by decide) (by decide) k) ?_
    refine own_by (V := s₁.setTop (mkF m 11 #[.val (.long q0), .second, .val (.long q1), .second] [(.long q1)])) (fun t k => XS.lloadN X0.here hx rfl (hb hby own_d_jdk_29_70_10) rfl  k) ?_
    refine own_retL X0 hx hlk e0 Bd.returns (hb hby own_d_jdk_29_70_11) ?_ (by decide) (by decide)
    exact ⟨congrArg (fun z => some (Value.long z)) (show q1 = (own_min q0 q1) from by unfold own_min; first | exact (if_pos ((own_lc _ _).2.mp hb3_1)).symm | exact (if_neg (fun u => hb3_1 ((own_lc _ _).2.mpr u))).symm), N0, rfl⟩
  · refine own_by (V := s₁.setTop (mkF m 6 #[.val (.long q0), .second, .val (.long q1), .second] [])) (fun t k => XS.ifNo X0.here hx rfl (hb hby own_d_jdk_29_70_3) rfl ((if0 _ _).trans (flt hb3_1).2.2.1) k) ?_
    refine own_by (V := s₁.setTop (mkF m 7 #[.val (.long q0), .second, .val (.long q1), .second] [(.long q0)])) (fun t k => XS.lloadN X0.here hx rfl (hb hby own_d_jdk_29_70_6) rfl  k) ?_
    refine own_by (V := s₁.setTop (mkF m 11 #[.val (.long q0), .second, .val (.long q1), .second] [(.long q0)])) (fun t k => XS.goto X0.here hx rfl (pc0 := 7) (pc' := 11) rfl (hb hby own_d_jdk_29_70_7) (by decide) (by decide) k) ?_
    refine own_retL X0 hx hlk e0 Bd.returns (hb hby own_d_jdk_29_70_11) ?_ (by decide) (by decide)
    exact ⟨congrArg (fun z => some (Value.long z)) (show q0 = (own_min q0 q1) from by unfold own_min; first | exact (if_pos ((own_lc _ _).2.mp hb3_1)).symm | exact (if_neg (fun u => hb3_1 ((own_lc _ _).2.mpr u))).symm), N0, rfl⟩
def own_Q_own_rnlz (Z : State) (p0 : Int32) (h0 : Heap) (n0 : Nat) : Option Value → Heap → List Loc → Prop := fun v h L => ∃ (r : Int32), v = some (.int r) ∧ Fr n0 L ∧ h = h0 ∧ own_nzz p0 r
theorem own_ef_own_rnlz (m : MethodId) (x0 : Int32) : entryFrame m #[(.int x0)] 2 = mkF m 0 #[.val (.int x0), .unset] [] := by first | (simp [entryFrame, mkF, argsToLocals, Value.category]; done) | rfl
set_option maxRecDepth 65536 in
set_option maxHeartbeats 40000000 in
theorem own_rnlz (l : Launch) (Z : State) (a0 : Array Value) (hw : ∀ d ∈ tables_1, d.before a0 Z = true) (ws : List Jvm.Cond) (p0 : Int32) (h0 : Heap) (n0 : Nat) (Z0 : n0 ≤ h0.size)  :
    MetFree l (⟨"java/lang/Integer", "numberOfLeadingZeros", "(I)I"⟩ : MethodName) (head1 (Jvm.Cond.code (⟨"java/lang/Integer", "numberOfLeadingZeros", "(I)I"⟩ : MethodName) jdk_33_method_47_code 2 (some .int) :: ws) ({ frames := 0, cells := 0, slots := 0, locals := 0 } : Room)) (fun a U => a = #[(.int p0)] ∧ Z.Warmed39 U.vm ∧ U.heap = h0) (fun _ _ _ _ _ => True) (fun _ U o U' => ∃ v L, o = .returned v ∧ (own_Q_own_rnlz Z p0 h0 n0) v U'.heap L ∧ FrameEnd U o U' L ({ frames := 0, cells := 0, slots := 0, locals := 0 } : Room).cells ({ frames := 0, cells := 0, slots := 0, locals := 0 } : Room).slots) := by
  refine MetFree.of_bodySF (plainFor_of_name own_pn0) hisR ?_
  intro p e s m args below meth c s₁ Bd hml0 hP hK
  obtain ⟨rfl, hZ, hh⟩ := hP
  have hx := Bd.exec
  have hby := Bd.bytes
  have hml : c.maxLocals = 2 := hml0
  have hown : s.vm.findClass "java/lang/Integer" = some m.cls := findClass_of_methodNamed Bd.named
  have hnm := (name_of_methodNamed Bd.named Bd.method).1
  have hlk : meth.locks = false := BodyLoose.notSynchronized Bd
  have X0 : Stand p l e ({ frames := 0, cells := 0, slots := 0, locals := 0 } : Room) s m #[(.int p0)] below meth c s₁ [] 0 0 := Stand.of_body Bd
  have e0 : s₁.heap = h0 := by rw [← hh, Bd.state]; rfl
  have N0 := Fr.nil n0
  show own_Ends p e below s (own_Q_own_rnlz Z p0 h0 n0) ({ frames := 0, cells := 0, slots := 0, locals := 0 } : Room).cells ({ frames := 0, cells := 0, slots := 0, locals := 0 } : Room).slots _
  refine own_by (V := s₁.setTop (mkF m 0 #[.val (.int p0), .unset] [])) (fun t k => castTop (own_ef_own_rnlz m p0) k) ?_
  refine own_by (V := s₁.setTop (mkF m 1 #[.val (.int p0), .unset] [(.int p0)])) (fun t k => XS.iloadN X0.here hx rfl (hb hby own_d_jdk_33_47_0) rfl  k) ?_
  by_cases hb1_1 : (0 : Int32) < p0
  · refine own_by (V := s₁.setTop (mkF m 15 #[.val (.int p0), .unset] [])) (fun t k => XS.ifYes X0.here hx rfl (pc0 := 1) (pc' := 15) rfl (hb hby own_d_jdk_33_47_1) rfl ((if0 _ _).trans (tlt hb1_1).2.2.1) (by decide) (by decide) k) ?_
    refine own_by (V := s₁.setTop (mkF m 17 #[.val (.int p0), .unset] [(.int (31 : Int32))])) (fun t k => XS.bipush X0.here hx rfl (hb hby own_d_jdk_33_47_15) k) ?_
    refine own_by (V := s₁.setTop (mkF m 18 #[.val (.int p0), .val (.int (31 : Int32))] [])) (fun t k => XS.istoreN X0.here hx rfl (hb hby own_d_jdk_33_47_17) rfl (l' := #[.val (.int p0), .val (.int (31 : Int32))]) rfl k) ?_
    refine own_by (V := s₁.setTop (mkF m 19 #[.val (.int p0), .val (.int (31 : Int32))] [(.int p0)])) (fun t k => XS.iloadN X0.here hx rfl (hb hby own_d_jdk_33_47_18) rfl  k) ?_
    refine own_by (V := s₁.setTop (mkF m 22 #[.val (.int p0), .val (.int (31 : Int32))] [(.int (65536 : Int32)), (.int p0)])) (Jvm.Stand.ldcwInt X0 hx hown (mvT hZ (hw _ (List.mem_of_getElem? (i := 86) rfl))) (g := (mkF m 19 #[.val (.int p0), .val (.int (31 : Int32))] [(.int p0)])) rfl (hb hby own_d_jdk_33_47_19)) ?_
    have J2 : ∀ (T2 : State) (l2 : List Loc) (a0 : Int32) (m0 : Int32) (X2 : Stand p l e ({ frames := 0, cells := 0, slots := 0, locals := 0 } : Room) s m #[(.int p0)] below meth c T2 l2 0 0) (e2 : T2.heap = h0) (N2 : Fr n0 l2) (hj0 : own_r p0 a0 m0 65536), own_Ends p e below s (own_Q_own_rnlz Z p0 h0 n0) ({ frames := 0, cells := 0, slots := 0, locals := 0 } : Room).cells ({ frames := 0, cells := 0, slots := 0, locals := 0 } : Room).slots (T2.setTop (mkF m 33 #[.val (.int a0), .val (.int m0)] [])) := by
      intro T2 l2 a0 m0 X2 e2 N2 hj0
      refine own_by (V := T2.setTop (mkF m 34 #[.val (.int a0), .val (.int m0)] [(.int a0)])) (fun t k => XS.iloadN X2.here hx rfl (hb hby own_d_jdk_33_47_33) rfl  k) ?_
      refine own_by (V := T2.setTop (mkF m 37 #[.val (.int a0), .val (.int m0)] [(.int (256 : Int32)), (.int a0)])) (fun t k => XS.sipush X2.here hx rfl (hb hby own_d_jdk_33_47_34) k) ?_
      have J3 : ∀ (T3 : State) (l3 : List Loc) (a1 : Int32) (m1 : Int32) (X3 : Stand p l e ({ frames := 0, cells := 0, slots := 0, locals := 0 } : Room) s m #[(.int p0)] below meth c T3 l3 0 0) (e3 : T3.heap = h0) (N3 : Fr n0 l3) (hj1 : own_r p0 a1 m1 256), own_Ends p e below s (own_Q_own_rnlz Z p0 h0 n0) ({ frames := 0, cells := 0, slots := 0, locals := 0 } : Room).cells ({ frames := 0, cells := 0, slots := 0, locals := 0 } : Room).slots (T3.setTop (mkF m 48 #[.val (.int a1), .val (.int m1)] [])) := by
        intro T3 l3 a1 m1 X3 e3 N3 hj1
        refine own_by (V := T3.setTop (mkF m 49 #[.val (.int a1), .val (.int m1)] [(.int a1)])) (fun t k => XS.iloadN X3.here hx rfl (hb hby own_d_jdk_33_47_48) rfl  k) ?_
        refine own_by (V := T3.setTop (mkF m 51 #[.val (.int a1), .val (.int m1)] [(.int (16 : Int32)), (.int a1)])) (fun t k => XS.bipush X3.here hx rfl (hb hby own_d_jdk_33_47_49) k) ?_
        have J4 : ∀ (T4 : State) (l4 : List Loc) (a2 : Int32) (m2 : Int32) (X4 : Stand p l e ({ frames := 0, cells := 0, slots := 0, locals := 0 } : Room) s m #[(.int p0)] below meth c T4 l4 0 0) (e4 : T4.heap = h0) (N4 : Fr n0 l4) (hj2 : own_r p0 a2 m2 16), own_Ends p e below s (own_Q_own_rnlz Z p0 h0 n0) ({ frames := 0, cells := 0, slots := 0, locals := 0 } : Room).cells ({ frames := 0, cells := 0, slots := 0, locals := 0 } : Room).slots (T4.setTop (mkF m 61 #[.val (.int a2), .val (.int m2)] [])) := by
          intro T4 l4 a2 m2 X4 e4 N4 hj2
          refine own_by (V := T4.setTop (mkF m 62 #[.val (.int a2), .val (.int m2)] [(.int a2)])) (fun t k => XS.iloadN X4.here hx rfl (hb hby own_d_jdk_33_47_61) rfl  k) ?_
          refine own_by (V := T4.setTop (mkF m 63 #[.val (.int a2), .val (.int m2)] [(.int (4 : Int32)), (.int a2)])) (fun t k => XS.iconst X4.here hx rfl (hb hby own_d_jdk_33_47_62) k) ?_
          have J5 : ∀ (T5 : State) (l5 : List Loc) (a3 : Int32) (m3 : Int32) (X5 : Stand p l e ({ frames := 0, cells := 0, slots := 0, locals := 0 } : Room) s m #[(.int p0)] below meth c T5 l5 0 0) (e5 : T5.heap = h0) (N5 : Fr n0 l5) (hj3 : own_r p0 a3 m3 4), own_Ends p e below s (own_Q_own_rnlz Z p0 h0 n0) ({ frames := 0, cells := 0, slots := 0, locals := 0 } : Room).cells ({ frames := 0, cells := 0, slots := 0, locals := 0 } : Room).slots (T5.setTop (mkF m 73 #[.val (.int a3), .val (.int m3)] [])) := by
            intro T5 l5 a3 m3 X5 e5 N5 hj3
            refine own_by (V := T5.setTop (mkF m 74 #[.val (.int a3), .val (.int m3)] [(.int m3)])) (fun t k => XS.iloadN X5.here hx rfl (hb hby own_d_jdk_33_47_73) rfl  k) ?_
            refine own_by (V := T5.setTop (mkF m 75 #[.val (.int a3), .val (.int m3)] [(.int a3), (.int m3)])) (fun t k => XS.iloadN X5.here hx rfl (hb hby own_d_jdk_33_47_74) rfl  k) ?_
            refine own_by (V := T5.setTop (mkF m 76 #[.val (.int a3), .val (.int m3)] [(.int (1 : Int32)), (.int a3), (.int m3)])) (fun t k => XS.iconst X5.here hx rfl (hb hby own_d_jdk_33_47_75) k) ?_
            refine own_by (V := T5.setTop (mkF m 77 #[.val (.int a3), .val (.int m3)] [(.int ((a3.toUInt32 >>> ((1 : Int32) &&& 31).toUInt32).toInt32)), (.int m3)])) (fun t k => XS.iushr X5.here hx rfl (hb hby own_d_jdk_33_47_76) rfl k) ?_
            refine own_by (V := T5.setTop (mkF m 78 #[.val (.int a3), .val (.int m3)] [(.int (m3 - ((a3.toUInt32 >>> ((1 : Int32) &&& 31).toUInt32).toInt32)))])) (fun t k => XS.isub X5.here hx rfl (hb hby own_d_jdk_33_47_77) rfl k) ?_
            refine own_retI X5 hx hlk e5 Bd.returns (hb hby own_d_jdk_33_47_78) ?_ (by decide) (by decide)
            exact ⟨(m3 - ((a3.toUInt32 >>> ((1 : Int32) &&& 31).toUInt32).toInt32)), rfl, N5, rfl, ⟨fun _ => own_r_end hj3, fun u => absurd u (by obtain ⟨s, q1, q2, q3, q4, q5⟩ := hj3; intro z; rw [z] at q3; simp at q3; omega), fun u => absurd u (by obtain ⟨s, q1, q2, q3, q4, q5⟩ := hj3; intro z; have := Int.ediv_neg_of_neg_of_pos z (show (0 : Int) < ((2 ^ s : Nat) : Int) by have := Nat.two_pow_pos s; omega); omega)⟩⟩
          by_cases hb63_6 : a2 < (4 : Int32)
          · refine own_by (V := T4.setTop (mkF m 73 #[.val (.int a2), .val (.int m2)] [])) (fun t k => XS.icmpYes X4.here hx rfl (pc0 := 63) (pc' := 73) rfl (hb hby own_d_jdk_33_47_63) rfl (tlt hb63_6).1 (by decide) (by decide) k) ?_
            exact J5 T4 _ a2 m2 (X4.more (by decide) (by decide)) e4 N4 (by obtain ⟨s, q1, q2, q3, q4, q5⟩ := hj2; exact ⟨s, q1, q2, q3, q4, by have q := Int32.lt_iff_toInt_lt.mp hb63_6; have e : (4 : Int32).toInt = 4 := rfl; omega⟩)
          · refine own_by (V := T4.setTop (mkF m 66 #[.val (.int a2), .val (.int m2)] [])) (fun t k => XS.icmpNo X4.here hx rfl (hb hby own_d_jdk_33_47_63) rfl (flt hb63_6).1 k) ?_
            refine own_by (V := T4.setTop (mkF m 69 #[.val (.int a2), .val (.int (m2 + (-2 : Int32)))] [])) (fun t k => XS.iinc X4.here hx rfl (hb hby own_d_jdk_33_47_66) rfl (l' := #[.val (.int a2), .val (.int (m2 + (-2 : Int32)))]) rfl k) ?_
            refine own_by (V := T4.setTop (mkF m 70 #[.val (.int a2), .val (.int (m2 + (-2 : Int32)))] [(.int a2)])) (fun t k => XS.iloadN X4.here hx rfl (hb hby own_d_jdk_33_47_69) rfl  k) ?_
            refine own_by (V := T4.setTop (mkF m 71 #[.val (.int a2), .val (.int (m2 + (-2 : Int32)))] [(.int (2 : Int32)), (.int a2)])) (fun t k => XS.iconst X4.here hx rfl (hb hby own_d_jdk_33_47_70) k) ?_
            refine own_by (V := T4.setTop (mkF m 72 #[.val (.int a2), .val (.int (m2 + (-2 : Int32)))] [(.int ((a2.toUInt32 >>> ((2 : Int32) &&& 31).toUInt32).toInt32))])) (fun t k => XS.iushr X4.here hx rfl (hb hby own_d_jdk_33_47_71) rfl k) ?_
            refine own_by (V := T4.setTop (mkF m 73 #[.val (.int ((a2.toUInt32 >>> ((2 : Int32) &&& 31).toUInt32).toInt32)), .val (.int (m2 + (-2 : Int32)))] [])) (fun t k => XS.istoreN X4.here hx rfl (hb hby own_d_jdk_33_47_72) rfl (l' := #[.val (.int ((a2.toUInt32 >>> ((2 : Int32) &&& 31).toUInt32).toInt32)), .val (.int (m2 + (-2 : Int32)))]) rfl k) ?_
            exact J5 T4 _ ((a2.toUInt32 >>> ((2 : Int32) &&& 31).toUInt32).toInt32) (m2 + (-2 : Int32)) (X4.more (by decide) (by decide)) e4 N4 (own_r_step (k := 2) hj2 (by decide) (by decide) (by decide) (by decide) (by show (4 : Int) ≤ _; exact Int.not_lt.mp fun u => hb63_6 (Int32.lt_iff_toInt_lt.mpr u)) (by decide))
        by_cases hb51_7 : a1 < (16 : Int32)
        · refine own_by (V := T3.setTop (mkF m 61 #[.val (.int a1), .val (.int m1)] [])) (fun t k => XS.icmpYes X3.here hx rfl (pc0 := 51) (pc' := 61) rfl (hb hby own_d_jdk_33_47_51) rfl (tlt hb51_7).1 (by decide) (by decide) k) ?_
          exact J4 T3 _ a1 m1 (X3.more (by decide) (by decide)) e3 N3 (by obtain ⟨s, q1, q2, q3, q4, q5⟩ := hj1; exact ⟨s, q1, q2, q3, q4, by have q := Int32.lt_iff_toInt_lt.mp hb51_7; have e : (16 : Int32).toInt = 16 := rfl; omega⟩)
        · refine own_by (V := T3.setTop (mkF m 54 #[.val (.int a1), .val (.int m1)] [])) (fun t k => XS.icmpNo X3.here hx rfl (hb hby own_d_jdk_33_47_51) rfl (flt hb51_7).1 k) ?_
          refine own_by (V := T3.setTop (mkF m 57 #[.val (.int a1), .val (.int (m1 + (-4 : Int32)))] [])) (fun t k => XS.iinc X3.here hx rfl (hb hby own_d_jdk_33_47_54) rfl (l' := #[.val (.int a1), .val (.int (m1 + (-4 : Int32)))]) rfl k) ?_
          refine own_by (V := T3.setTop (mkF m 58 #[.val (.int a1), .val (.int (m1 + (-4 : Int32)))] [(.int a1)])) (fun t k => XS.iloadN X3.here hx rfl (hb hby own_d_jdk_33_47_57) rfl  k) ?_
          refine own_by (V := T3.setTop (mkF m 59 #[.val (.int a1), .val (.int (m1 + (-4 : Int32)))] [(.int (4 : Int32)), (.int a1)])) (fun t k => XS.iconst X3.here hx rfl (hb hby own_d_jdk_33_47_58) k) ?_
          refine own_by (V := T3.setTop (mkF m 60 #[.val (.int a1), .val (.int (m1 + (-4 : Int32)))] [(.int ((a1.toUInt32 >>> ((4 : Int32) &&& 31).toUInt32).toInt32))])) (fun t k => XS.iushr X3.here hx rfl (hb hby own_d_jdk_33_47_59) rfl k) ?_
          refine own_by (V := T3.setTop (mkF m 61 #[.val (.int ((a1.toUInt32 >>> ((4 : Int32) &&& 31).toUInt32).toInt32)), .val (.int (m1 + (-4 : Int32)))] [])) (fun t k => XS.istoreN X3.here hx rfl (hb hby own_d_jdk_33_47_60) rfl (l' := #[.val (.int ((a1.toUInt32 >>> ((4 : Int32) &&& 31).toUInt32).toInt32)), .val (.int (m1 + (-4 : Int32)))]) rfl k) ?_
          exact J4 T3 _ ((a1.toUInt32 >>> ((4 : Int32) &&& 31).toUInt32).toInt32) (m1 + (-4 : Int32)) (X3.more (by decide) (by decide)) e3 N3 (own_r_step (k := 4) hj1 (by decide) (by decide) (by decide) (by decide) (by show (16 : Int) ≤ _; exact Int.not_lt.mp fun u => hb51_7 (Int32.lt_iff_toInt_lt.mpr u)) (by decide))
      by_cases hb37_8 : a0 < (256 : Int32)
      · refine own_by (V := T2.setTop (mkF m 48 #[.val (.int a0), .val (.int m0)] [])) (fun t k => XS.icmpYes X2.here hx rfl (pc0 := 37) (pc' := 48) rfl (hb hby own_d_jdk_33_47_37) rfl (tlt hb37_8).1 (by decide) (by decide) k) ?_
        exact J3 T2 _ a0 m0 (X2.more (by decide) (by decide)) e2 N2 (by obtain ⟨s, q1, q2, q3, q4, q5⟩ := hj0; exact ⟨s, q1, q2, q3, q4, by have q := Int32.lt_iff_toInt_lt.mp hb37_8; have e : (256 : Int32).toInt = 256 := rfl; omega⟩)
      · refine own_by (V := T2.setTop (mkF m 40 #[.val (.int a0), .val (.int m0)] [])) (fun t k => XS.icmpNo X2.here hx rfl (hb hby own_d_jdk_33_47_37) rfl (flt hb37_8).1 k) ?_
        refine own_by (V := T2.setTop (mkF m 43 #[.val (.int a0), .val (.int (m0 + (-8 : Int32)))] [])) (fun t k => XS.iinc X2.here hx rfl (hb hby own_d_jdk_33_47_40) rfl (l' := #[.val (.int a0), .val (.int (m0 + (-8 : Int32)))]) rfl k) ?_
        refine own_by (V := T2.setTop (mkF m 44 #[.val (.int a0), .val (.int (m0 + (-8 : Int32)))] [(.int a0)])) (fun t k => XS.iloadN X2.here hx rfl (hb hby own_d_jdk_33_47_43) rfl  k) ?_
        refine own_by (V := T2.setTop (mkF m 46 #[.val (.int a0), .val (.int (m0 + (-8 : Int32)))] [(.int (8 : Int32)), (.int a0)])) (fun t k => XS.bipush X2.here hx rfl (hb hby own_d_jdk_33_47_44) k) ?_
        refine own_by (V := T2.setTop (mkF m 47 #[.val (.int a0), .val (.int (m0 + (-8 : Int32)))] [(.int ((a0.toUInt32 >>> ((8 : Int32) &&& 31).toUInt32).toInt32))])) (fun t k => XS.iushr X2.here hx rfl (hb hby own_d_jdk_33_47_46) rfl k) ?_
        refine own_by (V := T2.setTop (mkF m 48 #[.val (.int ((a0.toUInt32 >>> ((8 : Int32) &&& 31).toUInt32).toInt32)), .val (.int (m0 + (-8 : Int32)))] [])) (fun t k => XS.istoreN X2.here hx rfl (hb hby own_d_jdk_33_47_47) rfl (l' := #[.val (.int ((a0.toUInt32 >>> ((8 : Int32) &&& 31).toUInt32).toInt32)), .val (.int (m0 + (-8 : Int32)))]) rfl k) ?_
        exact J3 T2 _ ((a0.toUInt32 >>> ((8 : Int32) &&& 31).toUInt32).toInt32) (m0 + (-8 : Int32)) (X2.more (by decide) (by decide)) e2 N2 (own_r_step (k := 8) hj0 (by decide) (by decide) (by decide) (by decide) (by show (256 : Int) ≤ _; exact Int.not_lt.mp fun u => hb37_8 (Int32.lt_iff_toInt_lt.mpr u)) (by decide))
    by_cases hb22_9 : p0 < (65536 : Int32)
    · refine own_by (V := s₁.setTop (mkF m 33 #[.val (.int p0), .val (.int (31 : Int32))] [])) (fun t k => XS.icmpYes X0.here hx rfl (pc0 := 22) (pc' := 33) rfl (hb hby own_d_jdk_33_47_22) rfl (tlt hb22_9).1 (by decide) (by decide) k) ?_
      exact J2 s₁ _ p0 (31 : Int32) (X0.more (by decide) (by decide)) e0 N0 (by obtain ⟨s, q1, q2, q3, q4, q5⟩ := (own_r0 (by have q := Int32.lt_iff_toInt_lt.mp hb1_1; exact q)); exact ⟨s, q1, q2, q3, q4, by have q := Int32.lt_iff_toInt_lt.mp hb22_9; have e : (65536 : Int32).toInt = 65536 := rfl; omega⟩)
    · refine own_by (V := s₁.setTop (mkF m 25 #[.val (.int p0), .val (.int (31 : Int32))] [])) (fun t k => XS.icmpNo X0.here hx rfl (hb hby own_d_jdk_33_47_22) rfl (flt hb22_9).1 k) ?_
      refine own_by (V := s₁.setTop (mkF m 28 #[.val (.int p0), .val (.int ((31 : Int32) + (-16 : Int32)))] [])) (fun t k => XS.iinc X0.here hx rfl (hb hby own_d_jdk_33_47_25) rfl (l' := #[.val (.int p0), .val (.int ((31 : Int32) + (-16 : Int32)))]) rfl k) ?_
      refine own_by (V := s₁.setTop (mkF m 29 #[.val (.int p0), .val (.int ((31 : Int32) + (-16 : Int32)))] [(.int p0)])) (fun t k => XS.iloadN X0.here hx rfl (hb hby own_d_jdk_33_47_28) rfl  k) ?_
      refine own_by (V := s₁.setTop (mkF m 31 #[.val (.int p0), .val (.int ((31 : Int32) + (-16 : Int32)))] [(.int (16 : Int32)), (.int p0)])) (fun t k => XS.bipush X0.here hx rfl (hb hby own_d_jdk_33_47_29) k) ?_
      refine own_by (V := s₁.setTop (mkF m 32 #[.val (.int p0), .val (.int ((31 : Int32) + (-16 : Int32)))] [(.int ((p0.toUInt32 >>> ((16 : Int32) &&& 31).toUInt32).toInt32))])) (fun t k => XS.iushr X0.here hx rfl (hb hby own_d_jdk_33_47_31) rfl k) ?_
      refine own_by (V := s₁.setTop (mkF m 33 #[.val (.int ((p0.toUInt32 >>> ((16 : Int32) &&& 31).toUInt32).toInt32)), .val (.int ((31 : Int32) + (-16 : Int32)))] [])) (fun t k => XS.istoreN X0.here hx rfl (hb hby own_d_jdk_33_47_32) rfl (l' := #[.val (.int ((p0.toUInt32 >>> ((16 : Int32) &&& 31).toUInt32).toInt32)), .val (.int ((31 : Int32) + (-16 : Int32)))]) rfl k) ?_
      exact J2 s₁ _ ((p0.toUInt32 >>> ((16 : Int32) &&& 31).toUInt32).toInt32) ((31 : Int32) + (-16 : Int32)) (X0.more (by decide) (by decide)) e0 N0 (own_r_step (k := 16) (own_r0 (by have q := Int32.lt_iff_toInt_lt.mp hb1_1; exact q)) (by decide) (by decide) (by decide) (by decide) (by show (65536 : Int) ≤ _; exact Int.not_lt.mp fun u => hb22_9 (Int32.lt_iff_toInt_lt.mpr u)) (by decide))
  · refine own_by (V := s₁.setTop (mkF m 4 #[.val (.int p0), .unset] [])) (fun t k => XS.ifNo X0.here hx rfl (hb hby own_d_jdk_33_47_1) rfl ((if0 _ _).trans (flt hb1_1).2.2.1) k) ?_
    refine own_by (V := s₁.setTop (mkF m 5 #[.val (.int p0), .unset] [(.int p0)])) (fun t k => XS.iloadN X0.here hx rfl (hb hby own_d_jdk_33_47_4) rfl  k) ?_
    by_cases hb5_10 : p0 = (0 : Int32)
    · refine own_by (V := s₁.setTop (mkF m 8 #[.val (.int p0), .unset] [])) (fun t k => XS.ifNo X0.here hx rfl (hb hby own_d_jdk_33_47_5) rfl ((if0 _ _).trans (teq hb5_10).2) k) ?_
      refine own_by (V := s₁.setTop (mkF m 10 #[.val (.int p0), .unset] [(.int (32 : Int32))])) (fun t k => XS.bipush X0.here hx rfl (hb hby own_d_jdk_33_47_8) k) ?_
      refine own_by (V := s₁.setTop (mkF m 14 #[.val (.int p0), .unset] [(.int (32 : Int32))])) (fun t k => XS.goto X0.here hx rfl (pc0 := 10) (pc' := 14) rfl (hb hby own_d_jdk_33_47_10) (by decide) (by decide) k) ?_
      refine own_retI X0 hx hlk e0 Bd.returns (hb hby own_d_jdk_33_47_14) ?_ (by decide) (by decide)
      exact ⟨(32 : Int32), rfl, N0, rfl, ⟨fun u => absurd (Int32.lt_iff_toInt_lt.mpr (show (0 : Int32).toInt < p0.toInt from u)) hb1_1, fun _ => rfl, fun u => absurd u (by rw [hb5_10]; decide)⟩⟩
    · refine own_by (V := s₁.setTop (mkF m 13 #[.val (.int p0), .unset] [])) (fun t k => XS.ifYes X0.here hx rfl (pc0 := 5) (pc' := 13) rfl (hb hby own_d_jdk_33_47_5) rfl ((if0 _ _).trans (feq hb5_10).2) (by decide) (by decide) k) ?_
      refine own_by (V := s₁.setTop (mkF m 14 #[.val (.int p0), .unset] [(.int (0 : Int32))])) (fun t k => XS.iconst X0.here hx rfl (hb hby own_d_jdk_33_47_13) k) ?_
      refine own_retI X0 hx hlk e0 Bd.returns (hb hby own_d_jdk_33_47_14) ?_ (by decide) (by decide)
      exact ⟨(0 : Int32), rfl, N0, rfl, ⟨fun u => absurd (Int32.lt_iff_toInt_lt.mpr (show (0 : Int32).toInt < p0.toInt from u)) hb1_1, fun u => absurd (Int32.toInt_inj.mp (show p0.toInt = (0 : Int32).toInt from u)) hb5_10, fun _ => rfl⟩⟩
def own_Q_own_rnlzL (Z : State) (q0 : Int64) (h0 : Heap) (n0 : Nat) : Option Value → Heap → List Loc → Prop := fun v h L => ∃ (r : Int32), v = some (.int r) ∧ Fr n0 L ∧ h = h0 ∧ own_nzL q0 r
theorem own_ef_own_rnlzL (m : MethodId) (x0 : Int64) : entryFrame m #[(.long x0)] 3 = mkF m 0 #[.val (.long x0), .second, .unset] [] := by first | (simp [entryFrame, mkF, argsToLocals, Value.category]; done) | rfl
set_option maxRecDepth 65536 in
set_option maxHeartbeats 40000000 in
theorem own_rnlzL (l : Launch) (Z : State) (a0 : Array Value) (hw : ∀ d ∈ tables_1, d.before a0 Z = true) (ws : List Jvm.Cond) (q0 : Int64) (h0 : Heap) (n0 : Nat) (Z0 : n0 ≤ h0.size) (hq : 0 < q0.toInt) :
    MetFree l (⟨"java/lang/Long", "numberOfLeadingZeros", "(J)I"⟩ : MethodName) (head1 (Jvm.Cond.code (⟨"java/lang/Long", "numberOfLeadingZeros", "(J)I"⟩ : MethodName) jdk_35_method_48_code 3 (some .int) :: ws) ({ frames := 1, cells := 0, slots := 0, locals := 14 } : Room)) (fun a U => a = #[(.long q0)] ∧ Z.Warmed39 U.vm ∧ U.heap = h0) (fun _ _ _ _ _ => True) (fun _ U o U' => ∃ v L, o = .returned v ∧ (own_Q_own_rnlzL Z q0 h0 n0) v U'.heap L ∧ FrameEnd U o U' L ({ frames := 1, cells := 0, slots := 0, locals := 14 } : Room).cells ({ frames := 1, cells := 0, slots := 0, locals := 14 } : Room).slots) := by
  refine MetFree.of_bodySF (plainFor_of_name own_pn1) hisR ?_
  intro p e s m args below meth c s₁ Bd hml0 hP hK
  obtain ⟨rfl, hZ, hh⟩ := hP
  have hx := Bd.exec
  have hby := Bd.bytes
  have hml : c.maxLocals = 3 := hml0
  have hown : s.vm.findClass "java/lang/Long" = some m.cls := findClass_of_methodNamed Bd.named
  have hnm := (name_of_methodNamed Bd.named Bd.method).1
  have hlk : meth.locks = false := BodyLoose.notSynchronized Bd
  have X0 : Stand p l e ({ frames := 1, cells := 0, slots := 0, locals := 14 } : Room) s m #[(.long q0)] below meth c s₁ [] 0 0 := Stand.of_body Bd
  have e0 : s₁.heap = h0 := by rw [← hh, Bd.state]; rfl
  have N0 := Fr.nil n0
  show own_Ends p e below s (own_Q_own_rnlzL Z q0 h0 n0) ({ frames := 1, cells := 0, slots := 0, locals := 14 } : Room).cells ({ frames := 1, cells := 0, slots := 0, locals := 14 } : Room).slots _
  refine own_by (V := s₁.setTop (mkF m 0 #[.val (.long q0), .second, .unset] [])) (fun t k => castTop (own_ef_own_rnlzL m q0) k) ?_
  refine own_by (V := s₁.setTop (mkF m 1 #[.val (.long q0), .second, .unset] [(.long q0)])) (fun t k => XS.lloadN X0.here hx rfl (hb hby own_d_jdk_35_48_0) rfl  k) ?_
  refine own_by (V := s₁.setTop (mkF m 3 #[.val (.long q0), .second, .unset] [(.int (32 : Int32)), (.long q0)])) (fun t k => XS.bipush X0.here hx rfl (hb hby own_d_jdk_35_48_1) k) ?_
  refine own_by (V := s₁.setTop (mkF m 4 #[.val (.long q0), .second, .unset] [(.long ((q0.toUInt64 >>> ((32 : Int32) &&& 0x3f).toInt64.toUInt64).toInt64))])) (fun t k => XS.lushr X0.here hx rfl (hb hby own_d_jdk_35_48_3) rfl k) ?_
  refine own_by (V := s₁.setTop (mkF m 5 #[.val (.long q0), .second, .unset] [(.int (((q0.toUInt64 >>> ((32 : Int32) &&& 0x3f).toInt64.toUInt64).toInt64).toInt32))])) (fun t k => XS.l2i X0.here hx rfl (hb hby own_d_jdk_35_48_4) rfl k) ?_
  refine own_by (V := s₁.setTop (mkF m 6 #[.val (.long q0), .second, .val (.int (((q0.toUInt64 >>> ((32 : Int32) &&& 0x3f).toInt64.toUInt64).toInt64).toInt32))] [])) (fun t k => XS.istoreN X0.here hx rfl (hb hby own_d_jdk_35_48_5) rfl (l' := #[.val (.long q0), .second, .val (.int (((q0.toUInt64 >>> ((32 : Int32) &&& 0x3f).toInt64.toUInt64).toInt64).toInt32))]) rfl k) ?_
  refine own_by (V := s₁.setTop (mkF m 7 #[.val (.long q0), .second, .val (.int (((q0.toUInt64 >>> ((32 : Int32) &&& 0x3f).toInt64.toUInt64).toInt64).toInt32))] [(.int (((q0.toUInt64 >>> ((32 : Int32) &&& 0x3f).toInt64.toUInt64).toInt64).toInt32))])) (fun t k => XS.iloadN X0.here hx rfl (hb hby own_d_jdk_35_48_6) rfl  k) ?_
  by_cases hb7_1 : (((q0.toUInt64 >>> ((32 : Int32) &&& 0x3f).toInt64.toUInt64).toInt64).toInt32) = (0 : Int32)
  · refine own_by (V := s₁.setTop (mkF m 10 #[.val (.long q0), .second, .val (.int (((q0.toUInt64 >>> ((32 : Int32) &&& 0x3f).toInt64.toUInt64).toInt64).toInt32))] [])) (fun t k => XS.ifNo X0.here hx rfl (hb hby own_d_jdk_35_48_7) rfl ((if0 _ _).trans (teq hb7_1).2) k) ?_
    refine own_by (V := s₁.setTop (mkF m 12 #[.val (.long q0), .second, .val (.int (((q0.toUInt64 >>> ((32 : Int32) &&& 0x3f).toInt64.toUInt64).toInt64).toInt32))] [(.int (32 : Int32))])) (fun t k => XS.bipush X0.here hx rfl (hb hby own_d_jdk_35_48_10) k) ?_
    refine own_by (V := s₁.setTop (mkF m 13 #[.val (.long q0), .second, .val (.int (((q0.toUInt64 >>> ((32 : Int32) &&& 0x3f).toInt64.toUInt64).toInt64).toInt32))] [(.long q0), (.int (32 : Int32))])) (fun t k => XS.lloadN X0.here hx rfl (hb hby own_d_jdk_35_48_12) rfl  k) ?_
    refine own_by (V := s₁.setTop (mkF m 14 #[.val (.long q0), .second, .val (.int (((q0.toUInt64 >>> ((32 : Int32) &&& 0x3f).toInt64.toUInt64).toInt64).toInt32))] [(.int (q0.toInt32)), (.int (32 : Int32))])) (fun t k => XS.l2i X0.here hx rfl (hb hby own_d_jdk_35_48_13) rfl k) ?_
    obtain ⟨_, _, ⟨T2, Lq2, kq2, nq2⟩, -, X2, ⟨Lc2, hQ2, lq2, yq2, zq2⟩, st2⟩ := Jvm.LawKit.callS X0 hx (y := (⟨"java/lang/Integer", "numberOfLeadingZeros", "(I)I"⟩ : MethodName)) hown (mvT hZ (hw _ (List.mem_of_getElem? (i := 82) rfl))) (mvT hZ (hw _ (List.mem_of_getElem? (i := 83) rfl))) (mvT hZ (hw _ (List.mem_of_getElem? (i := 84) rfl))) (mvT hZ (hw _ (List.mem_of_getElem? (i := 85) rfl))) (by decide) (backOf (W := 1) (own_rnlz l Z a0 hw [] (q0.toInt32) h0 n0 Z0 ) hZ (hw _ (List.mem_of_getElem? (i := 85) rfl)) (hw _ (List.mem_of_getElem? (i := 84) rfl)) (by decide) (by decide)) (g := (mkF m 14 #[.val (.long q0), .second, .val (.int (((q0.toUInt64 >>> ((32 : Int32) &&& 0x3f).toInt64.toUInt64).toInt64).toInt32))] [(.int (q0.toInt32)), (.int (32 : Int32))])) rfl (by rw [hml]; rfl) (argsL := [(.int (q0.toInt32))]) (rest := [(.int (32 : Int32))]) (lenOf own_pd0 rfl) rfl (by show 2 * 0 + _ ≤ _; exact Nat.le_of_eq rfl) (hb hby own_d_jdk_35_48_14) (fun _ _ => ⟨rfl, e0, (by decide : 0 + 0 ≤ _), (by decide : 0 + 0 ≤ _)⟩)
    dsimp only [Pt.U, Pt.locs, Pt.cells, Pt.slots] at X2 lq2 yq2 zq2 st2 hQ2
    subst lq2 yq2 zq2
    obtain ⟨r2, rfl, N2q, e2, g2_0⟩ := hQ2
    have N2 := Fr.app N0 N2q
    refine own_by (V := T2.setTop (mkF m 17 #[.val (.long q0), .second, .val (.int (((q0.toUInt64 >>> ((32 : Int32) &&& 0x3f).toInt64.toUInt64).toInt64).toInt32))] [(.int r2), (.int (32 : Int32))])) st2 ?_
    refine own_by (V := T2.setTop (mkF m 18 #[.val (.long q0), .second, .val (.int (((q0.toUInt64 >>> ((32 : Int32) &&& 0x3f).toInt64.toUInt64).toInt64).toInt32))] [(.int ((32 : Int32) + r2))])) (fun t k => XS.iadd X2.here hx rfl (hb hby own_d_jdk_35_48_17) rfl k) ?_
    refine own_by (V := T2.setTop (mkF m 25 #[.val (.long q0), .second, .val (.int (((q0.toUInt64 >>> ((32 : Int32) &&& 0x3f).toInt64.toUInt64).toInt64).toInt32))] [(.int ((32 : Int32) + r2))])) (fun t k => XS.goto X2.here hx rfl (pc0 := 18) (pc' := 25) rfl (hb hby own_d_jdk_35_48_18) (by decide) (by decide) k) ?_
    refine own_retI X2 hx hlk e2 Bd.returns (hb hby own_d_jdk_35_48_25) ?_ (by decide) (by decide)
    exact ⟨((32 : Int32) + r2), rfl, N2, rfl, (own_nzL1 hq hb7_1 g2_0)⟩
  · refine own_by (V := s₁.setTop (mkF m 21 #[.val (.long q0), .second, .val (.int (((q0.toUInt64 >>> ((32 : Int32) &&& 0x3f).toInt64.toUInt64).toInt64).toInt32))] [])) (fun t k => XS.ifYes X0.here hx rfl (pc0 := 7) (pc' := 21) rfl (hb hby own_d_jdk_35_48_7) rfl ((if0 _ _).trans (feq hb7_1).2) (by decide) (by decide) k) ?_
    refine own_by (V := s₁.setTop (mkF m 22 #[.val (.long q0), .second, .val (.int (((q0.toUInt64 >>> ((32 : Int32) &&& 0x3f).toInt64.toUInt64).toInt64).toInt32))] [(.int (((q0.toUInt64 >>> ((32 : Int32) &&& 0x3f).toInt64.toUInt64).toInt64).toInt32))])) (fun t k => XS.iloadN X0.here hx rfl (hb hby own_d_jdk_35_48_21) rfl  k) ?_
    obtain ⟨_, _, ⟨T3, Lq3, kq3, nq3⟩, -, X3, ⟨Lc3, hQ3, lq3, yq3, zq3⟩, st3⟩ := Jvm.LawKit.callS X0 hx (y := (⟨"java/lang/Integer", "numberOfLeadingZeros", "(I)I"⟩ : MethodName)) hown (mvT hZ (hw _ (List.mem_of_getElem? (i := 82) rfl))) (mvT hZ (hw _ (List.mem_of_getElem? (i := 83) rfl))) (mvT hZ (hw _ (List.mem_of_getElem? (i := 84) rfl))) (mvT hZ (hw _ (List.mem_of_getElem? (i := 85) rfl))) (by decide) (backOf (W := 0) (own_rnlz l Z a0 hw [] (((q0.toUInt64 >>> ((32 : Int32) &&& 0x3f).toInt64.toUInt64).toInt64).toInt32) h0 n0 Z0 ) hZ (hw _ (List.mem_of_getElem? (i := 85) rfl)) (hw _ (List.mem_of_getElem? (i := 84) rfl)) (by decide) (by decide)) (g := (mkF m 22 #[.val (.long q0), .second, .val (.int (((q0.toUInt64 >>> ((32 : Int32) &&& 0x3f).toInt64.toUInt64).toInt64).toInt32))] [(.int (((q0.toUInt64 >>> ((32 : Int32) &&& 0x3f).toInt64.toUInt64).toInt64).toInt32))])) rfl (by rw [hml]; rfl) (argsL := [(.int (((q0.toUInt64 >>> ((32 : Int32) &&& 0x3f).toInt64.toUInt64).toInt64).toInt32))]) (rest := []) (lenOf own_pd0 rfl) rfl (by show 2 * 0 + _ ≤ _; exact Nat.le_of_eq rfl) (hb hby own_d_jdk_35_48_22) (fun _ _ => ⟨rfl, e0, (by decide : 0 + 0 ≤ _), (by decide : 0 + 0 ≤ _)⟩)
    dsimp only [Pt.U, Pt.locs, Pt.cells, Pt.slots] at X3 lq3 yq3 zq3 st3 hQ3
    subst lq3 yq3 zq3
    obtain ⟨r3, rfl, N3q, e3, g3_0⟩ := hQ3
    have N3 := Fr.app N0 N3q
    refine own_by (V := T3.setTop (mkF m 25 #[.val (.long q0), .second, .val (.int (((q0.toUInt64 >>> ((32 : Int32) &&& 0x3f).toInt64.toUInt64).toInt64).toInt32))] [(.int r3)])) st3 ?_
    refine own_retI X3 hx hlk e3 Bd.returns (hb hby own_d_jdk_35_48_25) ?_ (by decide) (by decide)
    exact ⟨r3, rfl, N3, rfl, (own_nzL2 hq hb7_1 g3_0)⟩
def own_Q_own_rbkt (Z : State) (q0 : Int64) (h0 : Heap) (n0 : Nat) : Option Value → Heap → List Loc → Prop := fun v h L => ∃ (kk : Int32), v = some (.int kk) ∧ Fr n0 L ∧ h = h0 ∧ own_bk kk
theorem own_ef_own_rbkt (m : MethodId) (x0 : Int64) : entryFrame m #[(.long x0)] 5 = mkF m 0 #[.val (.long x0), .second, .unset, .unset, .unset] [] := by first | (simp [entryFrame, mkF, argsToLocals, Value.category]; done) | rfl
set_option maxRecDepth 65536 in
set_option maxHeartbeats 40000000 in
theorem own_rbkt (l : Launch) (Z : State) (a0 : Array Value) (hw : ∀ d ∈ tables_1, d.before a0 Z = true) (ws : List Jvm.Cond) (q0 : Int64) (h0 : Heap) (n0 : Nat) (Z0 : n0 ≤ h0.size) (hq : 0 ≤ q0.toInt) :
    MetFree l (⟨"com/example/nocord/nocord/bench/Latencies", "bucket", "(J)I"⟩ : MethodName) (head1 (Jvm.Cond.code (⟨"com/example/nocord/nocord/bench/Latencies", "bucket", "(J)I"⟩ : MethodName) prog_5_method_6_code 5 (some .int) :: ws) ({ frames := 2, cells := 0, slots := 0, locals := 29 } : Room)) (fun a U => a = #[(.long q0)] ∧ Z.Warmed39 U.vm ∧ U.heap = h0) (fun _ _ _ _ _ => True) (fun _ U o U' => ∃ v L, o = .returned v ∧ (own_Q_own_rbkt Z q0 h0 n0) v U'.heap L ∧ FrameEnd U o U' L ({ frames := 2, cells := 0, slots := 0, locals := 29 } : Room).cells ({ frames := 2, cells := 0, slots := 0, locals := 29 } : Room).slots) := by
  refine MetFree.of_bodySF (plainFor_of_name own_pn2) hisR ?_
  intro p e s m args below meth c s₁ Bd hml0 hP hK
  obtain ⟨rfl, hZ, hh⟩ := hP
  have hx := Bd.exec
  have hby := Bd.bytes
  have hml : c.maxLocals = 5 := hml0
  have hown : s.vm.findClass "com/example/nocord/nocord/bench/Latencies" = some m.cls := findClass_of_methodNamed Bd.named
  have hnm := (name_of_methodNamed Bd.named Bd.method).1
  have hlk : meth.locks = false := BodyLoose.notSynchronized Bd
  have X0 : Stand p l e ({ frames := 2, cells := 0, slots := 0, locals := 29 } : Room) s m #[(.long q0)] below meth c s₁ [] 0 0 := Stand.of_body Bd
  have e0 : s₁.heap = h0 := by rw [← hh, Bd.state]; rfl
  have N0 := Fr.nil n0
  show own_Ends p e below s (own_Q_own_rbkt Z q0 h0 n0) ({ frames := 2, cells := 0, slots := 0, locals := 29 } : Room).cells ({ frames := 2, cells := 0, slots := 0, locals := 29 } : Room).slots _
  refine own_by (V := s₁.setTop (mkF m 0 #[.val (.long q0), .second, .unset, .unset, .unset] [])) (fun t k => castTop (own_ef_own_rbkt m q0) k) ?_
  refine own_by (V := s₁.setTop (mkF m 1 #[.val (.long q0), .second, .unset, .unset, .unset] [(.long q0)])) (fun t k => XS.lloadN X0.here hx rfl (hb hby own_d_prog_5_6_0) rfl  k) ?_
  refine own_by (V := s₁.setTop (mkF m 4 #[.val (.long q0), .second, .unset, .unset, .unset] [(.long (256 : Int64)), (.long q0)])) (Jvm.Stand.ldc2Long X0 hx hown (mvT hZ (hw _ (List.mem_of_getElem? (i := 25) rfl))) (g := (mkF m 1 #[.val (.long q0), .second, .unset, .unset, .unset] [(.long q0)])) rfl (hb hby own_d_prog_5_6_1)) ?_
  refine own_by (V := s₁.setTop (mkF m 5 #[.val (.long q0), .second, .unset, .unset, .unset] [(.int (lcmpW q0 (256 : Int64)))])) (fun t k => XS.lcmp X0.here hx rfl (hb hby own_d_prog_5_6_4) rfl k) ?_
  by_cases hb5_1 : (lcmpW q0 (256 : Int64)) < (0 : Int32)
  · refine own_by (V := s₁.setTop (mkF m 8 #[.val (.long q0), .second, .unset, .unset, .unset] [])) (fun t k => XS.ifNo X0.here hx rfl (hb hby own_d_prog_5_6_5) rfl ((if0 _ _).trans (tlt hb5_1).2.1) k) ?_
    refine own_by (V := s₁.setTop (mkF m 9 #[.val (.long q0), .second, .unset, .unset, .unset] [(.long q0)])) (fun t k => XS.lloadN X0.here hx rfl (hb hby own_d_prog_5_6_8) rfl  k) ?_
    refine own_by (V := s₁.setTop (mkF m 10 #[.val (.long q0), .second, .unset, .unset, .unset] [(.int (q0.toInt32))])) (fun t k => XS.l2i X0.here hx rfl (hb hby own_d_prog_5_6_9) rfl k) ?_
    refine own_by (V := s₁.setTop (mkF m 11 #[.val (.long q0), .second, .val (.int (q0.toInt32)), .unset, .unset] [])) (fun t k => XS.istoreN X0.here hx rfl (hb hby own_d_prog_5_6_10) rfl (l' := #[.val (.long q0), .second, .val (.int (q0.toInt32)), .unset, .unset]) rfl k) ?_
    refine own_by (V := s₁.setTop (mkF m 53 #[.val (.long q0), .second, .val (.int (q0.toInt32)), .unset, .unset] [])) (fun t k => XS.goto X0.here hx rfl (pc0 := 11) (pc' := 53) rfl (hb hby own_d_prog_5_6_11) (by decide) (by decide) k) ?_
    refine own_by (V := s₁.setTop (mkF m 54 #[.val (.long q0), .second, .val (.int (q0.toInt32)), .unset, .unset] [(.int (q0.toInt32))])) (fun t k => XS.iloadN X0.here hx rfl (hb hby own_d_prog_5_6_53) rfl  k) ?_
    refine own_retI X0 hx hlk e0 Bd.returns (hb hby own_d_prog_5_6_54) ?_ (by decide) (by decide)
    exact ⟨(q0.toInt32), rfl, N0, rfl, (own_bk1 hq (by have e : (256 : Int64).toInt = 256 := rfl; have q := Int64.lt_iff_toInt_lt.mp ((own_lc _ _).1.mp hb5_1); omega))⟩
  · refine own_by (V := s₁.setTop (mkF m 14 #[.val (.long q0), .second, .unset, .unset, .unset] [])) (fun t k => XS.ifYes X0.here hx rfl (pc0 := 5) (pc' := 14) rfl (hb hby own_d_prog_5_6_5) rfl ((if0 _ _).trans (flt hb5_1).2.1) (by decide) (by decide) k) ?_
    refine own_by (V := s₁.setTop (mkF m 16 #[.val (.long q0), .second, .unset, .unset, .unset] [(.int (63 : Int32))])) (fun t k => XS.bipush X0.here hx rfl (hb hby own_d_prog_5_6_14) k) ?_
    refine own_by (V := s₁.setTop (mkF m 17 #[.val (.long q0), .second, .unset, .unset, .unset] [(.long q0), (.int (63 : Int32))])) (fun t k => XS.lloadN X0.here hx rfl (hb hby own_d_prog_5_6_16) rfl  k) ?_
    obtain ⟨_, _, ⟨T2, Lq2, kq2, nq2⟩, -, X2, ⟨Lc2, hQ2, lq2, yq2, zq2⟩, st2⟩ := Jvm.LawKit.callS X0 hx (y := (⟨"java/lang/Long", "numberOfLeadingZeros", "(J)I"⟩ : MethodName)) hown (mvT hZ (hw _ (List.mem_of_getElem? (i := 78) rfl))) (mvT hZ (hw _ (List.mem_of_getElem? (i := 79) rfl))) (mvT hZ (hw _ (List.mem_of_getElem? (i := 80) rfl))) (mvT hZ (hw _ (List.mem_of_getElem? (i := 81) rfl))) (by decide) (backOf (W := 1) (own_rnlzL l Z a0 hw [] q0 h0 n0 Z0 (by have q : (256 : Int) ≤ q0.toInt := (show (256 : Int) ≤ q0.toInt from Int.not_lt.mp fun u => hb5_1 ((own_lc _ _).1.mpr (Int64.lt_iff_toInt_lt.mpr u))); omega)) hZ (hw _ (List.mem_of_getElem? (i := 81) rfl)) (hw _ (List.mem_of_getElem? (i := 80) rfl)) (by decide) (by decide)) (g := (mkF m 17 #[.val (.long q0), .second, .unset, .unset, .unset] [(.long q0), (.int (63 : Int32))])) rfl (by rw [hml]; rfl) (argsL := [(.long q0)]) (rest := [(.int (63 : Int32))]) (lenOf own_pd1 rfl) rfl (by show 2 * 0 + _ ≤ _; exact Nat.le_of_eq rfl) (hb hby own_d_prog_5_6_17) (fun _ _ => ⟨rfl, e0, (by decide : 0 + 0 ≤ _), (by decide : 0 + 0 ≤ _)⟩)
    dsimp only [Pt.U, Pt.locs, Pt.cells, Pt.slots] at X2 lq2 yq2 zq2 st2 hQ2
    subst lq2 yq2 zq2
    obtain ⟨r2, rfl, N2q, e2, g2_0⟩ := hQ2
    have N2 := Fr.app N0 N2q
    refine own_by (V := T2.setTop (mkF m 20 #[.val (.long q0), .second, .unset, .unset, .unset] [(.int r2), (.int (63 : Int32))])) st2 ?_
    refine own_by (V := T2.setTop (mkF m 21 #[.val (.long q0), .second, .unset, .unset, .unset] [(.int ((63 : Int32) - r2))])) (fun t k => XS.isub X2.here hx rfl (hb hby own_d_prog_5_6_20) rfl k) ?_
    refine own_by (V := T2.setTop (mkF m 22 #[.val (.long q0), .second, .unset, .val (.int ((63 : Int32) - r2)), .unset] [])) (fun t k => XS.istoreN X2.here hx rfl (hb hby own_d_prog_5_6_21) rfl (l' := #[.val (.long q0), .second, .unset, .val (.int ((63 : Int32) - r2)), .unset]) rfl k) ?_
    refine own_by (V := T2.setTop (mkF m 23 #[.val (.long q0), .second, .unset, .val (.int ((63 : Int32) - r2)), .unset] [(.int ((63 : Int32) - r2))])) (fun t k => XS.iloadN X2.here hx rfl (hb hby own_d_prog_5_6_22) rfl  k) ?_
    refine own_by (V := T2.setTop (mkF m 25 #[.val (.long q0), .second, .unset, .val (.int ((63 : Int32) - r2)), .unset] [(.int (8 : Int32)), (.int ((63 : Int32) - r2))])) (fun t k => XS.bipush X2.here hx rfl (hb hby own_d_prog_5_6_23) k) ?_
    refine own_by (V := T2.setTop (mkF m 26 #[.val (.long q0), .second, .unset, .val (.int ((63 : Int32) - r2)), .unset] [(.int (((63 : Int32) - r2) - (8 : Int32)))])) (fun t k => XS.isub X2.here hx rfl (hb hby own_d_prog_5_6_25) rfl k) ?_
    refine own_by (V := T2.setTop (mkF m 27 #[.val (.long q0), .second, .unset, .val (.int ((63 : Int32) - r2)), .unset] [(.int (1 : Int32)), (.int (((63 : Int32) - r2) - (8 : Int32)))])) (fun t k => XS.iconst X2.here hx rfl (hb hby own_d_prog_5_6_26) k) ?_
    refine own_by (V := T2.setTop (mkF m 28 #[.val (.long q0), .second, .unset, .val (.int ((63 : Int32) - r2)), .unset] [(.int ((((63 : Int32) - r2) - (8 : Int32)) + (1 : Int32)))])) (fun t k => XS.iadd X2.here hx rfl (hb hby own_d_prog_5_6_27) rfl k) ?_
    refine own_by (V := T2.setTop (mkF m 30 #[.val (.long q0), .second, .unset, .val (.int ((63 : Int32) - r2)), .val (.int ((((63 : Int32) - r2) - (8 : Int32)) + (1 : Int32)))] [])) (fun t k => XS.istore X2.here hx rfl (hb hby own_d_prog_5_6_28) rfl (l' := #[.val (.long q0), .second, .unset, .val (.int ((63 : Int32) - r2)), .val (.int ((((63 : Int32) - r2) - (8 : Int32)) + (1 : Int32)))]) rfl k) ?_
    refine own_by (V := T2.setTop (mkF m 33 #[.val (.long q0), .second, .unset, .val (.int ((63 : Int32) - r2)), .val (.int ((((63 : Int32) - r2) - (8 : Int32)) + (1 : Int32)))] [(.int (256 : Int32))])) (fun t k => XS.sipush X2.here hx rfl (hb hby own_d_prog_5_6_30) k) ?_
    refine own_by (V := T2.setTop (mkF m 34 #[.val (.long q0), .second, .unset, .val (.int ((63 : Int32) - r2)), .val (.int ((((63 : Int32) - r2) - (8 : Int32)) + (1 : Int32)))] [(.int ((63 : Int32) - r2)), (.int (256 : Int32))])) (fun t k => XS.iloadN X2.here hx rfl (hb hby own_d_prog_5_6_33) rfl  k) ?_
    refine own_by (V := T2.setTop (mkF m 36 #[.val (.long q0), .second, .unset, .val (.int ((63 : Int32) - r2)), .val (.int ((((63 : Int32) - r2) - (8 : Int32)) + (1 : Int32)))] [(.int (8 : Int32)), (.int ((63 : Int32) - r2)), (.int (256 : Int32))])) (fun t k => XS.bipush X2.here hx rfl (hb hby own_d_prog_5_6_34) k) ?_
    refine own_by (V := T2.setTop (mkF m 37 #[.val (.long q0), .second, .unset, .val (.int ((63 : Int32) - r2)), .val (.int ((((63 : Int32) - r2) - (8 : Int32)) + (1 : Int32)))] [(.int (((63 : Int32) - r2) - (8 : Int32))), (.int (256 : Int32))])) (fun t k => XS.isub X2.here hx rfl (hb hby own_d_prog_5_6_36) rfl k) ?_
    refine own_by (V := T2.setTop (mkF m 40 #[.val (.long q0), .second, .unset, .val (.int ((63 : Int32) - r2)), .val (.int ((((63 : Int32) - r2) - (8 : Int32)) + (1 : Int32)))] [(.int (128 : Int32)), (.int (((63 : Int32) - r2) - (8 : Int32))), (.int (256 : Int32))])) (fun t k => XS.sipush X2.here hx rfl (hb hby own_d_prog_5_6_37) k) ?_
    refine own_by (V := T2.setTop (mkF m 41 #[.val (.long q0), .second, .unset, .val (.int ((63 : Int32) - r2)), .val (.int ((((63 : Int32) - r2) - (8 : Int32)) + (1 : Int32)))] [(.int ((((63 : Int32) - r2) - (8 : Int32)) * (128 : Int32))), (.int (256 : Int32))])) (fun t k => XS.imul X2.here hx rfl (hb hby own_d_prog_5_6_40) rfl k) ?_
    refine own_by (V := T2.setTop (mkF m 42 #[.val (.long q0), .second, .unset, .val (.int ((63 : Int32) - r2)), .val (.int ((((63 : Int32) - r2) - (8 : Int32)) + (1 : Int32)))] [(.int ((256 : Int32) + ((((63 : Int32) - r2) - (8 : Int32)) * (128 : Int32))))])) (fun t k => XS.iadd X2.here hx rfl (hb hby own_d_prog_5_6_41) rfl k) ?_
    refine own_by (V := T2.setTop (mkF m 43 #[.val (.long q0), .second, .unset, .val (.int ((63 : Int32) - r2)), .val (.int ((((63 : Int32) - r2) - (8 : Int32)) + (1 : Int32)))] [(.long q0), (.int ((256 : Int32) + ((((63 : Int32) - r2) - (8 : Int32)) * (128 : Int32))))])) (fun t k => XS.lloadN X2.here hx rfl (hb hby own_d_prog_5_6_42) rfl  k) ?_
    refine own_by (V := T2.setTop (mkF m 45 #[.val (.long q0), .second, .unset, .val (.int ((63 : Int32) - r2)), .val (.int ((((63 : Int32) - r2) - (8 : Int32)) + (1 : Int32)))] [(.int ((((63 : Int32) - r2) - (8 : Int32)) + (1 : Int32))), (.long q0), (.int ((256 : Int32) + ((((63 : Int32) - r2) - (8 : Int32)) * (128 : Int32))))])) (fun t k => XS.iload X2.here hx rfl (hb hby own_d_prog_5_6_43) rfl  k) ?_
    refine own_by (V := T2.setTop (mkF m 46 #[.val (.long q0), .second, .unset, .val (.int ((63 : Int32) - r2)), .val (.int ((((63 : Int32) - r2) - (8 : Int32)) + (1 : Int32)))] [(.long ((q0.toUInt64 >>> (((((63 : Int32) - r2) - (8 : Int32)) + (1 : Int32)) &&& 0x3f).toInt64.toUInt64).toInt64)), (.int ((256 : Int32) + ((((63 : Int32) - r2) - (8 : Int32)) * (128 : Int32))))])) (fun t k => XS.lushr X2.here hx rfl (hb hby own_d_prog_5_6_45) rfl k) ?_
    refine own_by (V := T2.setTop (mkF m 47 #[.val (.long q0), .second, .unset, .val (.int ((63 : Int32) - r2)), .val (.int ((((63 : Int32) - r2) - (8 : Int32)) + (1 : Int32)))] [(.int (((q0.toUInt64 >>> (((((63 : Int32) - r2) - (8 : Int32)) + (1 : Int32)) &&& 0x3f).toInt64.toUInt64).toInt64).toInt32)), (.int ((256 : Int32) + ((((63 : Int32) - r2) - (8 : Int32)) * (128 : Int32))))])) (fun t k => XS.l2i X2.here hx rfl (hb hby own_d_prog_5_6_46) rfl k) ?_
    refine own_by (V := T2.setTop (mkF m 48 #[.val (.long q0), .second, .unset, .val (.int ((63 : Int32) - r2)), .val (.int ((((63 : Int32) - r2) - (8 : Int32)) + (1 : Int32)))] [(.int (((256 : Int32) + ((((63 : Int32) - r2) - (8 : Int32)) * (128 : Int32))) + (((q0.toUInt64 >>> (((((63 : Int32) - r2) - (8 : Int32)) + (1 : Int32)) &&& 0x3f).toInt64.toUInt64).toInt64).toInt32)))])) (fun t k => XS.iadd X2.here hx rfl (hb hby own_d_prog_5_6_47) rfl k) ?_
    refine own_by (V := T2.setTop (mkF m 51 #[.val (.long q0), .second, .unset, .val (.int ((63 : Int32) - r2)), .val (.int ((((63 : Int32) - r2) - (8 : Int32)) + (1 : Int32)))] [(.int (128 : Int32)), (.int (((256 : Int32) + ((((63 : Int32) - r2) - (8 : Int32)) * (128 : Int32))) + (((q0.toUInt64 >>> (((((63 : Int32) - r2) - (8 : Int32)) + (1 : Int32)) &&& 0x3f).toInt64.toUInt64).toInt64).toInt32)))])) (fun t k => XS.sipush X2.here hx rfl (hb hby own_d_prog_5_6_48) k) ?_
    refine own_by (V := T2.setTop (mkF m 52 #[.val (.long q0), .second, .unset, .val (.int ((63 : Int32) - r2)), .val (.int ((((63 : Int32) - r2) - (8 : Int32)) + (1 : Int32)))] [(.int ((((256 : Int32) + ((((63 : Int32) - r2) - (8 : Int32)) * (128 : Int32))) + (((q0.toUInt64 >>> (((((63 : Int32) - r2) - (8 : Int32)) + (1 : Int32)) &&& 0x3f).toInt64.toUInt64).toInt64).toInt32)) - (128 : Int32)))])) (fun t k => XS.isub X2.here hx rfl (hb hby own_d_prog_5_6_51) rfl k) ?_
    refine own_by (V := T2.setTop (mkF m 53 #[.val (.long q0), .second, .val (.int ((((256 : Int32) + ((((63 : Int32) - r2) - (8 : Int32)) * (128 : Int32))) + (((q0.toUInt64 >>> (((((63 : Int32) - r2) - (8 : Int32)) + (1 : Int32)) &&& 0x3f).toInt64.toUInt64).toInt64).toInt32)) - (128 : Int32))), .val (.int ((63 : Int32) - r2)), .val (.int ((((63 : Int32) - r2) - (8 : Int32)) + (1 : Int32)))] [])) (fun t k => XS.istoreN X2.here hx rfl (hb hby own_d_prog_5_6_52) rfl (l' := #[.val (.long q0), .second, .val (.int ((((256 : Int32) + ((((63 : Int32) - r2) - (8 : Int32)) * (128 : Int32))) + (((q0.toUInt64 >>> (((((63 : Int32) - r2) - (8 : Int32)) + (1 : Int32)) &&& 0x3f).toInt64.toUInt64).toInt64).toInt32)) - (128 : Int32))), .val (.int ((63 : Int32) - r2)), .val (.int ((((63 : Int32) - r2) - (8 : Int32)) + (1 : Int32)))]) rfl k) ?_
    refine own_by (V := T2.setTop (mkF m 54 #[.val (.long q0), .second, .val (.int ((((256 : Int32) + ((((63 : Int32) - r2) - (8 : Int32)) * (128 : Int32))) + (((q0.toUInt64 >>> (((((63 : Int32) - r2) - (8 : Int32)) + (1 : Int32)) &&& 0x3f).toInt64.toUInt64).toInt64).toInt32)) - (128 : Int32))), .val (.int ((63 : Int32) - r2)), .val (.int ((((63 : Int32) - r2) - (8 : Int32)) + (1 : Int32)))] [(.int ((((256 : Int32) + ((((63 : Int32) - r2) - (8 : Int32)) * (128 : Int32))) + (((q0.toUInt64 >>> (((((63 : Int32) - r2) - (8 : Int32)) + (1 : Int32)) &&& 0x3f).toInt64.toUInt64).toInt64).toInt32)) - (128 : Int32)))])) (fun t k => XS.iloadN X2.here hx rfl (hb hby own_d_prog_5_6_53) rfl  k) ?_
    refine own_retI X2 hx hlk e2 Bd.returns (hb hby own_d_prog_5_6_54) ?_ (by decide) (by decide)
    exact ⟨((((256 : Int32) + ((((63 : Int32) - r2) - (8 : Int32)) * (128 : Int32))) + (((q0.toUInt64 >>> (((((63 : Int32) - r2) - (8 : Int32)) + (1 : Int32)) &&& 0x3f).toInt64.toUInt64).toInt64).toInt32)) - (128 : Int32)), rfl, N2, rfl, (own_bk2 g2_0 (show (256 : Int) ≤ q0.toInt from Int.not_lt.mp fun u => hb5_1 ((own_lc _ _).1.mpr (Int64.lt_iff_toInt_lt.mpr u))))⟩
def own_Q_own_rmid (Z : State) (p0 : Int32) (h0 : Heap) (n0 : Nat) : Option Value → Heap → List Loc → Prop := fun v h L => v = some (.long (own_mid p0)) ∧ Fr n0 L ∧ h = h0
theorem own_ef_own_rmid (m : MethodId) (x0 : Int32) : entryFrame m #[(.int x0)] 6 = mkF m 0 #[.val (.int x0), .unset, .unset, .unset, .unset, .unset] [] := by first | (simp [entryFrame, mkF, argsToLocals, Value.category]; done) | rfl
set_option maxRecDepth 65536 in
set_option maxHeartbeats 40000000 in
theorem own_rmid (l : Launch) (Z : State) (a0 : Array Value) (hw : ∀ d ∈ tables_1, d.before a0 Z = true) (ws : List Jvm.Cond) (p0 : Int32) (h0 : Heap) (n0 : Nat) :
    MetFree l (⟨"com/example/nocord/nocord/bench/Latencies", "middle", "(I)J"⟩ : MethodName) (head1 (Jvm.Cond.code (⟨"com/example/nocord/nocord/bench/Latencies", "middle", "(I)J"⟩ : MethodName) prog_5_method_7_code 6 (some .long) :: ws) ({ frames := 0, cells := 0, slots := 0, locals := 0 } : Room)) (fun a U => a = #[(.int p0)] ∧ Z.Warmed39 U.vm ∧ U.heap = h0) (fun _ _ _ _ _ => True) (fun _ U o U' => ∃ v L, o = .returned v ∧ (own_Q_own_rmid Z p0 h0 n0) v U'.heap L ∧ FrameEnd U o U' L ({ frames := 0, cells := 0, slots := 0, locals := 0 } : Room).cells ({ frames := 0, cells := 0, slots := 0, locals := 0 } : Room).slots) := by
  refine MetFree.of_bodySF (plainFor_of_name own_pn2) hisR ?_
  intro p e s m args below meth c s₁ Bd hml0 hP hK
  obtain ⟨rfl, hZ, hh⟩ := hP
  have hx := Bd.exec
  have hby := Bd.bytes
  have hml : c.maxLocals = 6 := hml0
  have hown : s.vm.findClass "com/example/nocord/nocord/bench/Latencies" = some m.cls := findClass_of_methodNamed Bd.named
  have hnm := (name_of_methodNamed Bd.named Bd.method).1
  have hlk : meth.locks = false := BodyLoose.notSynchronized Bd
  have X0 : Stand p l e ({ frames := 0, cells := 0, slots := 0, locals := 0 } : Room) s m #[(.int p0)] below meth c s₁ [] 0 0 := Stand.of_body Bd
  have e0 : s₁.heap = h0 := by rw [← hh, Bd.state]; rfl
  have N0 := Fr.nil n0
  show own_Ends p e below s (own_Q_own_rmid Z p0 h0 n0) ({ frames := 0, cells := 0, slots := 0, locals := 0 } : Room).cells ({ frames := 0, cells := 0, slots := 0, locals := 0 } : Room).slots _
  refine own_by (V := s₁.setTop (mkF m 0 #[.val (.int p0), .unset, .unset, .unset, .unset, .unset] [])) (fun t k => castTop (own_ef_own_rmid m p0) k) ?_
  refine own_by (V := s₁.setTop (mkF m 1 #[.val (.int p0), .unset, .unset, .unset, .unset, .unset] [(.int p0)])) (fun t k => XS.iloadN X0.here hx rfl (hb hby own_d_prog_5_7_0) rfl  k) ?_
  refine own_by (V := s₁.setTop (mkF m 4 #[.val (.int p0), .unset, .unset, .unset, .unset, .unset] [(.int (256 : Int32)), (.int p0)])) (fun t k => XS.sipush X0.here hx rfl (hb hby own_d_prog_5_7_1) k) ?_
  by_cases hb4_1 : p0 < (256 : Int32)
  · refine own_by (V := s₁.setTop (mkF m 7 #[.val (.int p0), .unset, .unset, .unset, .unset, .unset] [])) (fun t k => XS.icmpNo X0.here hx rfl (hb hby own_d_prog_5_7_4) rfl (tlt hb4_1).2.1 k) ?_
    refine own_by (V := s₁.setTop (mkF m 8 #[.val (.int p0), .unset, .unset, .unset, .unset, .unset] [(.int p0)])) (fun t k => XS.iloadN X0.here hx rfl (hb hby own_d_prog_5_7_7) rfl  k) ?_
    refine own_by (V := s₁.setTop (mkF m 9 #[.val (.int p0), .unset, .unset, .unset, .unset, .unset] [(.long (p0.toInt64))])) (fun t k => XS.i2l X0.here hx rfl (hb hby own_d_prog_5_7_8) rfl k) ?_
    refine own_by (V := s₁.setTop (mkF m 10 #[.val (.int p0), .val (.long (p0.toInt64)), .second, .unset, .unset, .unset] [])) (fun t k => XS.lstoreN X0.here hx rfl (hb hby own_d_prog_5_7_9) rfl (l' := #[.val (.int p0), .val (.long (p0.toInt64)), .second, .unset, .unset, .unset]) rfl k) ?_
    refine own_by (V := s₁.setTop (mkF m 56 #[.val (.int p0), .val (.long (p0.toInt64)), .second, .unset, .unset, .unset] [])) (fun t k => XS.goto X0.here hx rfl (pc0 := 10) (pc' := 56) rfl (hb hby own_d_prog_5_7_10) (by decide) (by decide) k) ?_
    refine own_by (V := s₁.setTop (mkF m 57 #[.val (.int p0), .val (.long (p0.toInt64)), .second, .unset, .unset, .unset] [(.long (p0.toInt64))])) (fun t k => XS.lloadN X0.here hx rfl (hb hby own_d_prog_5_7_56) rfl  k) ?_
    refine own_retL X0 hx hlk e0 Bd.returns (hb hby own_d_prog_5_7_57) ?_ (by decide) (by decide)
    exact ⟨congrArg (fun z => some (Value.long z)) (show (p0.toInt64) = (own_mid p0) from by unfold own_mid; first | exact (if_pos hb4_1).symm | exact (if_neg hb4_1).symm), N0, rfl⟩
  · refine own_by (V := s₁.setTop (mkF m 13 #[.val (.int p0), .unset, .unset, .unset, .unset, .unset] [])) (fun t k => XS.icmpYes X0.here hx rfl (pc0 := 4) (pc' := 13) rfl (hb hby own_d_prog_5_7_4) rfl (flt hb4_1).2.1 (by decide) (by decide) k) ?_
    refine own_by (V := s₁.setTop (mkF m 14 #[.val (.int p0), .unset, .unset, .unset, .unset, .unset] [(.int p0)])) (fun t k => XS.iloadN X0.here hx rfl (hb hby own_d_prog_5_7_13) rfl  k) ?_
    refine own_by (V := s₁.setTop (mkF m 17 #[.val (.int p0), .unset, .unset, .unset, .unset, .unset] [(.int (256 : Int32)), (.int p0)])) (fun t k => XS.sipush X0.here hx rfl (hb hby own_d_prog_5_7_14) k) ?_
    refine own_by (V := s₁.setTop (mkF m 18 #[.val (.int p0), .unset, .unset, .unset, .unset, .unset] [(.int (p0 - (256 : Int32)))])) (fun t k => XS.isub X0.here hx rfl (hb hby own_d_prog_5_7_17) rfl k) ?_
    refine own_by (V := s₁.setTop (mkF m 21 #[.val (.int p0), .unset, .unset, .unset, .unset, .unset] [(.int (128 : Int32)), (.int (p0 - (256 : Int32)))])) (fun t k => XS.sipush X0.here hx rfl (hb hby own_d_prog_5_7_18) k) ?_
    refine own_by (V := s₁.setTop (mkF m 22 #[.val (.int p0), .unset, .unset, .unset, .unset, .unset] [(.int ((p0 - (256 : Int32)) / (128 : Int32)))])) (fun t k => XS.idiv X0.here hx rfl (hb hby own_d_prog_5_7_21) rfl (by decide) k) ?_
    refine own_by (V := s₁.setTop (mkF m 23 #[.val (.int p0), .unset, .unset, .unset, .unset, .unset] [(.int (1 : Int32)), (.int ((p0 - (256 : Int32)) / (128 : Int32)))])) (fun t k => XS.iconst X0.here hx rfl (hb hby own_d_prog_5_7_22) k) ?_
    refine own_by (V := s₁.setTop (mkF m 24 #[.val (.int p0), .unset, .unset, .unset, .unset, .unset] [(.int (((p0 - (256 : Int32)) / (128 : Int32)) + (1 : Int32)))])) (fun t k => XS.iadd X0.here hx rfl (hb hby own_d_prog_5_7_23) rfl k) ?_
    refine own_by (V := s₁.setTop (mkF m 25 #[.val (.int p0), .unset, .unset, .val (.int (((p0 - (256 : Int32)) / (128 : Int32)) + (1 : Int32))), .unset, .unset] [])) (fun t k => XS.istoreN X0.here hx rfl (hb hby own_d_prog_5_7_24) rfl (l' := #[.val (.int p0), .unset, .unset, .val (.int (((p0 - (256 : Int32)) / (128 : Int32)) + (1 : Int32))), .unset, .unset]) rfl k) ?_
    refine own_by (V := s₁.setTop (mkF m 26 #[.val (.int p0), .unset, .unset, .val (.int (((p0 - (256 : Int32)) / (128 : Int32)) + (1 : Int32))), .unset, .unset] [(.int p0)])) (fun t k => XS.iloadN X0.here hx rfl (hb hby own_d_prog_5_7_25) rfl  k) ?_
    refine own_by (V := s₁.setTop (mkF m 29 #[.val (.int p0), .unset, .unset, .val (.int (((p0 - (256 : Int32)) / (128 : Int32)) + (1 : Int32))), .unset, .unset] [(.int (256 : Int32)), (.int p0)])) (fun t k => XS.sipush X0.here hx rfl (hb hby own_d_prog_5_7_26) k) ?_
    refine own_by (V := s₁.setTop (mkF m 30 #[.val (.int p0), .unset, .unset, .val (.int (((p0 - (256 : Int32)) / (128 : Int32)) + (1 : Int32))), .unset, .unset] [(.int (p0 - (256 : Int32)))])) (fun t k => XS.isub X0.here hx rfl (hb hby own_d_prog_5_7_29) rfl k) ?_
    refine own_by (V := s₁.setTop (mkF m 33 #[.val (.int p0), .unset, .unset, .val (.int (((p0 - (256 : Int32)) / (128 : Int32)) + (1 : Int32))), .unset, .unset] [(.int (128 : Int32)), (.int (p0 - (256 : Int32)))])) (fun t k => XS.sipush X0.here hx rfl (hb hby own_d_prog_5_7_30) k) ?_
    refine own_by (V := s₁.setTop (mkF m 34 #[.val (.int p0), .unset, .unset, .val (.int (((p0 - (256 : Int32)) / (128 : Int32)) + (1 : Int32))), .unset, .unset] [(.int ((p0 - (256 : Int32)) % (128 : Int32)))])) (fun t k => iremM X0 hx rfl (hb hby own_d_prog_5_7_33) rfl (by decide) k) ?_
    refine own_by (V := s₁.setTop (mkF m 37 #[.val (.int p0), .unset, .unset, .val (.int (((p0 - (256 : Int32)) / (128 : Int32)) + (1 : Int32))), .unset, .unset] [(.int (128 : Int32)), (.int ((p0 - (256 : Int32)) % (128 : Int32)))])) (fun t k => XS.sipush X0.here hx rfl (hb hby own_d_prog_5_7_34) k) ?_
    refine own_by (V := s₁.setTop (mkF m 38 #[.val (.int p0), .unset, .unset, .val (.int (((p0 - (256 : Int32)) / (128 : Int32)) + (1 : Int32))), .unset, .unset] [(.int (((p0 - (256 : Int32)) % (128 : Int32)) + (128 : Int32)))])) (fun t k => XS.iadd X0.here hx rfl (hb hby own_d_prog_5_7_37) rfl k) ?_
    refine own_by (V := s₁.setTop (mkF m 39 #[.val (.int p0), .unset, .unset, .val (.int (((p0 - (256 : Int32)) / (128 : Int32)) + (1 : Int32))), .unset, .unset] [(.long ((((p0 - (256 : Int32)) % (128 : Int32)) + (128 : Int32)).toInt64))])) (fun t k => XS.i2l X0.here hx rfl (hb hby own_d_prog_5_7_38) rfl k) ?_
    refine own_by (V := s₁.setTop (mkF m 40 #[.val (.int p0), .unset, .unset, .val (.int (((p0 - (256 : Int32)) / (128 : Int32)) + (1 : Int32))), .unset, .unset] [(.int (((p0 - (256 : Int32)) / (128 : Int32)) + (1 : Int32))), (.long ((((p0 - (256 : Int32)) % (128 : Int32)) + (128 : Int32)).toInt64))])) (fun t k => XS.iloadN X0.here hx rfl (hb hby own_d_prog_5_7_39) rfl  k) ?_
    refine own_by (V := s₁.setTop (mkF m 41 #[.val (.int p0), .unset, .unset, .val (.int (((p0 - (256 : Int32)) / (128 : Int32)) + (1 : Int32))), .unset, .unset] [(.long (((((p0 - (256 : Int32)) % (128 : Int32)) + (128 : Int32)).toInt64) <<< ((((p0 - (256 : Int32)) / (128 : Int32)) + (1 : Int32)) &&& 0x3f).toInt64))])) (fun t k => XS.lshl X0.here hx rfl (hb hby own_d_prog_5_7_40) rfl k) ?_
    refine own_by (V := s₁.setTop (mkF m 43 #[.val (.int p0), .unset, .unset, .val (.int (((p0 - (256 : Int32)) / (128 : Int32)) + (1 : Int32))), .val (.long (((((p0 - (256 : Int32)) % (128 : Int32)) + (128 : Int32)).toInt64) <<< ((((p0 - (256 : Int32)) / (128 : Int32)) + (1 : Int32)) &&& 0x3f).toInt64)), .second] [])) (fun t k => XS.lstore X0.here hx rfl (hb hby own_d_prog_5_7_41) rfl (l' := #[.val (.int p0), .unset, .unset, .val (.int (((p0 - (256 : Int32)) / (128 : Int32)) + (1 : Int32))), .val (.long (((((p0 - (256 : Int32)) % (128 : Int32)) + (128 : Int32)).toInt64) <<< ((((p0 - (256 : Int32)) / (128 : Int32)) + (1 : Int32)) &&& 0x3f).toInt64)), .second]) rfl k) ?_
    refine own_by (V := s₁.setTop (mkF m 45 #[.val (.int p0), .unset, .unset, .val (.int (((p0 - (256 : Int32)) / (128 : Int32)) + (1 : Int32))), .val (.long (((((p0 - (256 : Int32)) % (128 : Int32)) + (128 : Int32)).toInt64) <<< ((((p0 - (256 : Int32)) / (128 : Int32)) + (1 : Int32)) &&& 0x3f).toInt64)), .second] [(.long (((((p0 - (256 : Int32)) % (128 : Int32)) + (128 : Int32)).toInt64) <<< ((((p0 - (256 : Int32)) / (128 : Int32)) + (1 : Int32)) &&& 0x3f).toInt64))])) (fun t k => XS.lload X0.here hx rfl (hb hby own_d_prog_5_7_43) rfl  k) ?_
    refine own_by (V := s₁.setTop (mkF m 46 #[.val (.int p0), .unset, .unset, .val (.int (((p0 - (256 : Int32)) / (128 : Int32)) + (1 : Int32))), .val (.long (((((p0 - (256 : Int32)) % (128 : Int32)) + (128 : Int32)).toInt64) <<< ((((p0 - (256 : Int32)) / (128 : Int32)) + (1 : Int32)) &&& 0x3f).toInt64)), .second] [(.long (1 : Int64)), (.long (((((p0 - (256 : Int32)) % (128 : Int32)) + (128 : Int32)).toInt64) <<< ((((p0 - (256 : Int32)) / (128 : Int32)) + (1 : Int32)) &&& 0x3f).toInt64))])) (fun t k => XS.lconst X0.here hx rfl (hb hby own_d_prog_5_7_45) k) ?_
    refine own_by (V := s₁.setTop (mkF m 47 #[.val (.int p0), .unset, .unset, .val (.int (((p0 - (256 : Int32)) / (128 : Int32)) + (1 : Int32))), .val (.long (((((p0 - (256 : Int32)) % (128 : Int32)) + (128 : Int32)).toInt64) <<< ((((p0 - (256 : Int32)) / (128 : Int32)) + (1 : Int32)) &&& 0x3f).toInt64)), .second] [(.int (((p0 - (256 : Int32)) / (128 : Int32)) + (1 : Int32))), (.long (1 : Int64)), (.long (((((p0 - (256 : Int32)) % (128 : Int32)) + (128 : Int32)).toInt64) <<< ((((p0 - (256 : Int32)) / (128 : Int32)) + (1 : Int32)) &&& 0x3f).toInt64))])) (fun t k => XS.iloadN X0.here hx rfl (hb hby own_d_prog_5_7_46) rfl  k) ?_
    refine own_by (V := s₁.setTop (mkF m 48 #[.val (.int p0), .unset, .unset, .val (.int (((p0 - (256 : Int32)) / (128 : Int32)) + (1 : Int32))), .val (.long (((((p0 - (256 : Int32)) % (128 : Int32)) + (128 : Int32)).toInt64) <<< ((((p0 - (256 : Int32)) / (128 : Int32)) + (1 : Int32)) &&& 0x3f).toInt64)), .second] [(.long ((1 : Int64) <<< ((((p0 - (256 : Int32)) / (128 : Int32)) + (1 : Int32)) &&& 0x3f).toInt64)), (.long (((((p0 - (256 : Int32)) % (128 : Int32)) + (128 : Int32)).toInt64) <<< ((((p0 - (256 : Int32)) / (128 : Int32)) + (1 : Int32)) &&& 0x3f).toInt64))])) (fun t k => XS.lshl X0.here hx rfl (hb hby own_d_prog_5_7_47) rfl k) ?_
    refine own_by (V := s₁.setTop (mkF m 49 #[.val (.int p0), .unset, .unset, .val (.int (((p0 - (256 : Int32)) / (128 : Int32)) + (1 : Int32))), .val (.long (((((p0 - (256 : Int32)) % (128 : Int32)) + (128 : Int32)).toInt64) <<< ((((p0 - (256 : Int32)) / (128 : Int32)) + (1 : Int32)) &&& 0x3f).toInt64)), .second] [(.long (1 : Int64)), (.long ((1 : Int64) <<< ((((p0 - (256 : Int32)) / (128 : Int32)) + (1 : Int32)) &&& 0x3f).toInt64)), (.long (((((p0 - (256 : Int32)) % (128 : Int32)) + (128 : Int32)).toInt64) <<< ((((p0 - (256 : Int32)) / (128 : Int32)) + (1 : Int32)) &&& 0x3f).toInt64))])) (fun t k => XS.lconst X0.here hx rfl (hb hby own_d_prog_5_7_48) k) ?_
    refine own_by (V := s₁.setTop (mkF m 50 #[.val (.int p0), .unset, .unset, .val (.int (((p0 - (256 : Int32)) / (128 : Int32)) + (1 : Int32))), .val (.long (((((p0 - (256 : Int32)) % (128 : Int32)) + (128 : Int32)).toInt64) <<< ((((p0 - (256 : Int32)) / (128 : Int32)) + (1 : Int32)) &&& 0x3f).toInt64)), .second] [(.long (((1 : Int64) <<< ((((p0 - (256 : Int32)) / (128 : Int32)) + (1 : Int32)) &&& 0x3f).toInt64) - (1 : Int64))), (.long (((((p0 - (256 : Int32)) % (128 : Int32)) + (128 : Int32)).toInt64) <<< ((((p0 - (256 : Int32)) / (128 : Int32)) + (1 : Int32)) &&& 0x3f).toInt64))])) (fun t k => XS.lsub X0.here hx rfl (hb hby own_d_prog_5_7_49) rfl k) ?_
    refine own_by (V := s₁.setTop (mkF m 53 #[.val (.int p0), .unset, .unset, .val (.int (((p0 - (256 : Int32)) / (128 : Int32)) + (1 : Int32))), .val (.long (((((p0 - (256 : Int32)) % (128 : Int32)) + (128 : Int32)).toInt64) <<< ((((p0 - (256 : Int32)) / (128 : Int32)) + (1 : Int32)) &&& 0x3f).toInt64)), .second] [(.long (2 : Int64)), (.long (((1 : Int64) <<< ((((p0 - (256 : Int32)) / (128 : Int32)) + (1 : Int32)) &&& 0x3f).toInt64) - (1 : Int64))), (.long (((((p0 - (256 : Int32)) % (128 : Int32)) + (128 : Int32)).toInt64) <<< ((((p0 - (256 : Int32)) / (128 : Int32)) + (1 : Int32)) &&& 0x3f).toInt64))])) (Jvm.Stand.ldc2Long X0 hx hown (mvT hZ (hw _ (List.mem_of_getElem? (i := 87) rfl))) (g := (mkF m 50 #[.val (.int p0), .unset, .unset, .val (.int (((p0 - (256 : Int32)) / (128 : Int32)) + (1 : Int32))), .val (.long (((((p0 - (256 : Int32)) % (128 : Int32)) + (128 : Int32)).toInt64) <<< ((((p0 - (256 : Int32)) / (128 : Int32)) + (1 : Int32)) &&& 0x3f).toInt64)), .second] [(.long (((1 : Int64) <<< ((((p0 - (256 : Int32)) / (128 : Int32)) + (1 : Int32)) &&& 0x3f).toInt64) - (1 : Int64))), (.long (((((p0 - (256 : Int32)) % (128 : Int32)) + (128 : Int32)).toInt64) <<< ((((p0 - (256 : Int32)) / (128 : Int32)) + (1 : Int32)) &&& 0x3f).toInt64))])) rfl (hb hby own_d_prog_5_7_50)) ?_
    refine own_by (V := s₁.setTop (mkF m 54 #[.val (.int p0), .unset, .unset, .val (.int (((p0 - (256 : Int32)) / (128 : Int32)) + (1 : Int32))), .val (.long (((((p0 - (256 : Int32)) % (128 : Int32)) + (128 : Int32)).toInt64) <<< ((((p0 - (256 : Int32)) / (128 : Int32)) + (1 : Int32)) &&& 0x3f).toInt64)), .second] [(.long ((((1 : Int64) <<< ((((p0 - (256 : Int32)) / (128 : Int32)) + (1 : Int32)) &&& 0x3f).toInt64) - (1 : Int64)) / (2 : Int64))), (.long (((((p0 - (256 : Int32)) % (128 : Int32)) + (128 : Int32)).toInt64) <<< ((((p0 - (256 : Int32)) / (128 : Int32)) + (1 : Int32)) &&& 0x3f).toInt64))])) (fun t k => XS.ldiv X0.here hx rfl (hb hby own_d_prog_5_7_53) rfl (by decide) k) ?_
    refine own_by (V := s₁.setTop (mkF m 55 #[.val (.int p0), .unset, .unset, .val (.int (((p0 - (256 : Int32)) / (128 : Int32)) + (1 : Int32))), .val (.long (((((p0 - (256 : Int32)) % (128 : Int32)) + (128 : Int32)).toInt64) <<< ((((p0 - (256 : Int32)) / (128 : Int32)) + (1 : Int32)) &&& 0x3f).toInt64)), .second] [(.long ((((((p0 - (256 : Int32)) % (128 : Int32)) + (128 : Int32)).toInt64) <<< ((((p0 - (256 : Int32)) / (128 : Int32)) + (1 : Int32)) &&& 0x3f).toInt64) + ((((1 : Int64) <<< ((((p0 - (256 : Int32)) / (128 : Int32)) + (1 : Int32)) &&& 0x3f).toInt64) - (1 : Int64)) / (2 : Int64))))])) (fun t k => XS.ladd X0.here hx rfl (hb hby own_d_prog_5_7_54) rfl k) ?_
    refine own_by (V := s₁.setTop (mkF m 56 #[.val (.int p0), .val (.long ((((((p0 - (256 : Int32)) % (128 : Int32)) + (128 : Int32)).toInt64) <<< ((((p0 - (256 : Int32)) / (128 : Int32)) + (1 : Int32)) &&& 0x3f).toInt64) + ((((1 : Int64) <<< ((((p0 - (256 : Int32)) / (128 : Int32)) + (1 : Int32)) &&& 0x3f).toInt64) - (1 : Int64)) / (2 : Int64)))), .second, .val (.int (((p0 - (256 : Int32)) / (128 : Int32)) + (1 : Int32))), .val (.long (((((p0 - (256 : Int32)) % (128 : Int32)) + (128 : Int32)).toInt64) <<< ((((p0 - (256 : Int32)) / (128 : Int32)) + (1 : Int32)) &&& 0x3f).toInt64)), .second] [])) (fun t k => XS.lstoreN X0.here hx rfl (hb hby own_d_prog_5_7_55) rfl (l' := #[.val (.int p0), .val (.long ((((((p0 - (256 : Int32)) % (128 : Int32)) + (128 : Int32)).toInt64) <<< ((((p0 - (256 : Int32)) / (128 : Int32)) + (1 : Int32)) &&& 0x3f).toInt64) + ((((1 : Int64) <<< ((((p0 - (256 : Int32)) / (128 : Int32)) + (1 : Int32)) &&& 0x3f).toInt64) - (1 : Int64)) / (2 : Int64)))), .second, .val (.int (((p0 - (256 : Int32)) / (128 : Int32)) + (1 : Int32))), .val (.long (((((p0 - (256 : Int32)) % (128 : Int32)) + (128 : Int32)).toInt64) <<< ((((p0 - (256 : Int32)) / (128 : Int32)) + (1 : Int32)) &&& 0x3f).toInt64)), .second]) rfl k) ?_
    refine own_by (V := s₁.setTop (mkF m 57 #[.val (.int p0), .val (.long ((((((p0 - (256 : Int32)) % (128 : Int32)) + (128 : Int32)).toInt64) <<< ((((p0 - (256 : Int32)) / (128 : Int32)) + (1 : Int32)) &&& 0x3f).toInt64) + ((((1 : Int64) <<< ((((p0 - (256 : Int32)) / (128 : Int32)) + (1 : Int32)) &&& 0x3f).toInt64) - (1 : Int64)) / (2 : Int64)))), .second, .val (.int (((p0 - (256 : Int32)) / (128 : Int32)) + (1 : Int32))), .val (.long (((((p0 - (256 : Int32)) % (128 : Int32)) + (128 : Int32)).toInt64) <<< ((((p0 - (256 : Int32)) / (128 : Int32)) + (1 : Int32)) &&& 0x3f).toInt64)), .second] [(.long ((((((p0 - (256 : Int32)) % (128 : Int32)) + (128 : Int32)).toInt64) <<< ((((p0 - (256 : Int32)) / (128 : Int32)) + (1 : Int32)) &&& 0x3f).toInt64) + ((((1 : Int64) <<< ((((p0 - (256 : Int32)) / (128 : Int32)) + (1 : Int32)) &&& 0x3f).toInt64) - (1 : Int64)) / (2 : Int64))))])) (fun t k => XS.lloadN X0.here hx rfl (hb hby own_d_prog_5_7_56) rfl  k) ?_
    refine own_retL X0 hx hlk e0 Bd.returns (hb hby own_d_prog_5_7_57) ?_ (by decide) (by decide)
    exact ⟨congrArg (fun z => some (Value.long z)) (show ((((((p0 - (256 : Int32)) % (128 : Int32)) + (128 : Int32)).toInt64) <<< ((((p0 - (256 : Int32)) / (128 : Int32)) + (1 : Int32)) &&& 0x3f).toInt64) + ((((1 : Int64) <<< ((((p0 - (256 : Int32)) / (128 : Int32)) + (1 : Int32)) &&& 0x3f).toInt64) - (1 : Int64)) / (2 : Int64))) = (own_mid p0) from by unfold own_mid; first | exact (if_pos hb4_1).symm | exact (if_neg hb4_1).symm), N0, rfl⟩
def own_Q_own_rinit (Z : State) (o0 : Addr) (h0 : Heap) (n0 : Nat) : Option Value → Heap → List Loc → Prop := fun v h L => ∃ (b : Addr) (kb : ClassId), v = none ∧ Fr n0 L ∧ Keep h0 h [o0] ∧ h0.size ≤ b ∧ Exa Z h o0 "com/example/nocord/nocord/bench/Latencies" ∧ Fld Z h o0 "com/example/nocord/nocord/bench/Latencies" "counts" "[J" (.ref b) ∧ Fld Z h o0 "com/example/nocord/nocord/bench/Latencies" "total" "J" (.long (0 : Int64)) ∧ own_Arf Z h b kb (fun _ => (0 : Int64))
theorem own_ef_own_rinit (m : MethodId) (x0 : Addr) : entryFrame m #[(.ref x0)] 1 = mkF m 0 #[.val (.ref x0)] [] := by first | (simp [entryFrame, mkF, argsToLocals, Value.category]; done) | rfl
set_option maxRecDepth 65536 in
set_option maxHeartbeats 40000000 in
theorem own_rinit (l : Launch) (Z : State) (a0 : Array Value) (hw : ∀ d ∈ tables_1, d.before a0 Z = true) (ws : List Jvm.Cond) (o0 : Addr) (h0 : Heap) (n0 : Nat) (Z0 : n0 ≤ h0.size) (g0 : n0 ≤ o0) (E0 : Exa Z h0 o0 "com/example/nocord/nocord/bench/Latencies") (Fc : Fld Z h0 o0 "com/example/nocord/nocord/bench/Latencies" "counts" "[J" .null) (Ft : Fld Z h0 o0 "com/example/nocord/nocord/bench/Latencies" "total" "J" (.long (0 : Int64))) :
    MetFree l (⟨"com/example/nocord/nocord/bench/Latencies", "<init>", "()V"⟩ : MethodName) (head1 (Jvm.Cond.code (⟨"com/example/nocord/nocord/bench/Latencies", "<init>", "()V"⟩ : MethodName) prog_5_method_1_code 1 none :: ws) ({ frames := 1, cells := 1, slots := 7296, locals := 12 } : Room)) (fun a U => a = #[(.ref o0)] ∧ Z.Warmed39 U.vm ∧ U.heap = h0) (fun _ _ _ _ _ => True) (fun _ U o U' => ∃ v L, o = .returned v ∧ (own_Q_own_rinit Z o0 h0 n0) v U'.heap L ∧ FrameEnd U o U' L ({ frames := 1, cells := 1, slots := 7296, locals := 12 } : Room).cells ({ frames := 1, cells := 1, slots := 7296, locals := 12 } : Room).slots) := by
  refine MetFree.of_bodySF (plainFor_of_name own_pn2) hisR ?_
  intro p e s m args below meth c s₁ Bd hml0 hP hK
  obtain ⟨rfl, hZ, hh⟩ := hP
  have hx := Bd.exec
  have hby := Bd.bytes
  have hml : c.maxLocals = 1 := hml0
  have hown : s.vm.findClass "com/example/nocord/nocord/bench/Latencies" = some m.cls := findClass_of_methodNamed Bd.named
  have hnm := (name_of_methodNamed Bd.named Bd.method).1
  have hlk : meth.locks = false := BodyLoose.notSynchronized Bd
  have X0 : Stand p l e ({ frames := 1, cells := 1, slots := 7296, locals := 12 } : Room) s m #[(.ref o0)] below meth c s₁ [] 0 0 := Stand.of_body Bd
  have e0 : s₁.heap = h0 := by rw [← hh, Bd.state]; rfl
  have N0 := Fr.nil n0
  show own_Ends p e below s (own_Q_own_rinit Z o0 h0 n0) ({ frames := 1, cells := 1, slots := 7296, locals := 12 } : Room).cells ({ frames := 1, cells := 1, slots := 7296, locals := 12 } : Room).slots _
  refine own_by (V := s₁.setTop (mkF m 0 #[.val (.ref o0)] [])) (fun t k => castTop (own_ef_own_rinit m o0) k) ?_
  refine own_by (V := s₁.setTop (mkF m 1 #[.val (.ref o0)] [(.ref o0)])) (fun t k => XS.aloadN X0.here hx rfl (hb hby own_d_prog_5_1_0) rfl rfl k) ?_
  obtain ⟨T1, X1, e1, st1⟩ := initO X0 hx hZ hown (hw _ (List.mem_of_getElem? (i := 7) rfl)) (hw _ (List.mem_of_getElem? (i := 8) rfl)) (hw _ (List.mem_of_getElem? (i := 9) rfl)) e0 (g := (mkF m 1 #[.val (.ref o0)] [(.ref o0)])) rfl (by rw [hml]; rfl) rfl (hb hby own_d_prog_5_1_1) (by decide) (W := 0) (by show 2 * 0 + _ ≤ _; exact Nat.le_of_eq rfl) (by decide)
  refine own_by (V := T1.setTop (mkF m 4 #[.val (.ref o0)] [])) st1 ?_
  refine own_by (V := T1.setTop (mkF m 5 #[.val (.ref o0)] [(.ref o0)])) (fun t k => XS.aloadN X1.here hx rfl (hb hby own_d_prog_5_1_4) rfl rfl k) ?_
  refine own_by (V := T1.setTop (mkF m 8 #[.val (.ref o0)] [(.int (7296 : Int32)), (.ref o0)])) (fun t k => XS.sipush X1.here hx rfl (hb hby own_d_prog_5_1_5) k) ?_
  obtain ⟨T2, h2, k2, X2, e2, E2, A2, st2⟩ := newP X1 hx hZ (hw _ (List.mem_of_getElem? (i := 10) rfl)) e1 (g := (mkF m 8 #[.val (.ref o0)] [(.int (7296 : Int32)), (.ref o0)])) rfl (hb hby own_d_prog_5_1_8) rfl (by decide) (cap := 7296) (by decide) (by decide) (by decide) (by decide)
  obtain ⟨b2, g2⟩ : ∃ z, z = h0.size := ⟨_, rfl⟩
  rw [← g2] at A2 st2
  have kb2 : h0.size ≤ b2 := Nat.le_trans (Keep.refl h0 [o0]).1 (Nat.le_of_eq g2.symm)
  have ne3 : o0 ≠ b2 := Nat.ne_of_lt (Nat.lt_of_lt_of_le E0.lt (Nat.le_of_eq g2.symm))
  have f5 := E0.ext E2
  have f6 := Fc.ext E2
  have f7 := Ft.ext E2
  have K2 := (Keep.refl h0 [o0]).ext E2
  have V2 : own_Arf Z h2 b2 k2 (fun _ => (0 : Int64)) := own_Arf.new A2
  have gn2 : n0 ≤ b2 := Nat.le_trans Z0 (Nat.le_of_eq g2.symm)
  have Zs2 : n0 ≤ h2.size := Nat.le_trans Z0 E2.1
  refine own_by (V := T2.setTop (mkF m 10 #[.val (.ref o0)] [(.ref b2), (.ref o0)])) st2 ?_
  obtain ⟨T11, h11, X11, e11, W11, st11⟩ := putF X2 hx hZ hown (host := "") (Or.inl (hw _ (List.mem_of_getElem? (i := 11) rfl))) Via.refl e2 f6 f5 (Or.inr ⟨(hw _ (List.mem_of_getElem? (i := 12) rfl)), rfl, hnm⟩) (hw _ (List.mem_of_getElem? (i := 2) rfl)) (ty := (.array .long)) (by decide) rfl rfl (g := (mkF m 10 #[.val (.ref o0)] [(.ref b2), (.ref o0)])) rfl rfl (hb hby own_d_prog_5_1_10)
  have N11 := Fr.snoc X11 N0 g0
  have K11 := K2.wr W11 (Or.inl (List.mem_of_getElem? (i := 0) rfl))
  have Zs11 : n0 ≤ h11.size := by rw [W11.size]; exact Zs2
  have f12 := f5.wr W11
  have f13 := f6.same W11
  have f14 := f7.other W11 (Or.inr (slot_ne (Or.inl (hw _ (List.mem_of_getElem? (i := 27) rfl))) (Or.inr (hw _ (List.mem_of_getElem? (i := 12) rfl))) (by decide) (t := .long) (t' := (.array .long)) (by decide) (by decide)))
  have f15 := V2.other W11 (Ne.symm ne3)
  refine own_by (V := T11.setTop (mkF m 13 #[.val (.ref o0)] [])) st11 ?_
  refine own_ret0 X11 hx hlk e11 Bd.returns (hb hby own_d_prog_5_1_13) ?_ (by decide) (by decide)
  exact ⟨b2, k2, rfl, N11, K11, (kb2), f12, f13, f14, f15⟩
def own_Q_own_rrec (Z : State) (o0 : Addr) (q1 : Int64) (b0 : Addr) (k0 : ClassId) (f0 : Nat → Int64) (t0 : Int64) (h0 : Heap) (n0 : Nat) : Option Value → Heap → List Loc → Prop := fun v h L => ∃ (kk : Int32), v = none ∧ Fr n0 L ∧ Keep h0 h [o0, b0] ∧ Exa Z h o0 "com/example/nocord/nocord/bench/Latencies" ∧ Fld Z h o0 "com/example/nocord/nocord/bench/Latencies" "counts" "[J" (.ref b0) ∧ Fld Z h o0 "com/example/nocord/nocord/bench/Latencies" "total" "J" (.long (t0 + (1 : Int64))) ∧ own_Arf Z h b0 k0 (own_inc f0 kk) ∧ own_bk kk
theorem own_ef_own_rrec (m : MethodId) (x0 : Addr) (x1 : Int64) : entryFrame m #[(.ref x0), (.long x1)] 3 = mkF m 0 #[.val (.ref x0), .val (.long x1), .second] [] := by first | (simp [entryFrame, mkF, argsToLocals, Value.category]; done) | rfl
set_option maxRecDepth 65536 in
set_option maxHeartbeats 40000000 in
theorem own_rrec (l : Launch) (Z : State) (a0 : Array Value) (hw : ∀ d ∈ tables_1, d.before a0 Z = true) (ws : List Jvm.Cond) (o0 : Addr) (q1 : Int64) (b0 : Addr) (k0 : ClassId) (f0 : Nat → Int64) (t0 : Int64) (h0 : Heap) (n0 : Nat) (Z0 : n0 ≤ h0.size) (g0 : n0 ≤ o0) (gb0 : n0 ≤ b0) (hne : o0 ≠ b0) (E0 : Exa Z h0 o0 "com/example/nocord/nocord/bench/Latencies") (Fc0 : Fld Z h0 o0 "com/example/nocord/nocord/bench/Latencies" "counts" "[J" (.ref b0)) (Ft0 : Fld Z h0 o0 "com/example/nocord/nocord/bench/Latencies" "total" "J" (.long t0)) (A0 : own_Arf Z h0 b0 k0 f0) :
    MetFree l (⟨"com/example/nocord/nocord/bench/Latencies", "record", "(J)V"⟩ : MethodName) (head1 (Jvm.Cond.code (⟨"com/example/nocord/nocord/bench/Latencies", "record", "(J)V"⟩ : MethodName) prog_5_method_2_code 3 none :: ws) ({ frames := 3, cells := 0, slots := 0, locals := 46 } : Room)) (fun a U => a = #[(.ref o0), (.long q1)] ∧ Z.Warmed39 U.vm ∧ U.heap = h0) (fun _ _ _ _ _ => True) (fun _ U o U' => ∃ v L, o = .returned v ∧ (own_Q_own_rrec Z o0 q1 b0 k0 f0 t0 h0 n0) v U'.heap L ∧ FrameEnd U o U' L ({ frames := 3, cells := 0, slots := 0, locals := 46 } : Room).cells ({ frames := 3, cells := 0, slots := 0, locals := 46 } : Room).slots) := by
  refine MetFree.of_bodySF (plainFor_of_name own_pn2) hisR ?_
  intro p e s m args below meth c s₁ Bd hml0 hP hK
  obtain ⟨rfl, hZ, hh⟩ := hP
  have hx := Bd.exec
  have hby := Bd.bytes
  have hml : c.maxLocals = 3 := hml0
  have hown : s.vm.findClass "com/example/nocord/nocord/bench/Latencies" = some m.cls := findClass_of_methodNamed Bd.named
  have hnm := (name_of_methodNamed Bd.named Bd.method).1
  have hlk : meth.locks = false := BodyLoose.notSynchronized Bd
  have X0 : Stand p l e ({ frames := 3, cells := 0, slots := 0, locals := 46 } : Room) s m #[(.ref o0), (.long q1)] below meth c s₁ [] 0 0 := Stand.of_body Bd
  have e0 : s₁.heap = h0 := by rw [← hh, Bd.state]; rfl
  have N0 := Fr.nil n0
  show own_Ends p e below s (own_Q_own_rrec Z o0 q1 b0 k0 f0 t0 h0 n0) ({ frames := 3, cells := 0, slots := 0, locals := 46 } : Room).cells ({ frames := 3, cells := 0, slots := 0, locals := 46 } : Room).slots _
  refine own_by (V := s₁.setTop (mkF m 0 #[.val (.ref o0), .val (.long q1), .second] [])) (fun t k => castTop (own_ef_own_rrec m o0 q1) k) ?_
  refine own_by (V := s₁.setTop (mkF m 1 #[.val (.ref o0), .val (.long q1), .second] [(.ref o0)])) (fun t k => XS.aloadN X0.here hx rfl (hb hby own_d_prog_5_2_0) rfl rfl k) ?_
  obtain ⟨T1, X1, e1, st1⟩ := getF X0 hx hZ hown (host := "") (Or.inl (hw _ (List.mem_of_getElem? (i := 11) rfl))) Via.refl e0 Fc0 (g := (mkF m 1 #[.val (.ref o0), .val (.long q1), .second] [(.ref o0)])) rfl rfl (hb hby own_d_prog_5_2_1)
  refine own_by (V := T1.setTop (mkF m 4 #[.val (.ref o0), .val (.long q1), .second] [(.ref b0)])) st1 ?_
  refine own_by (V := T1.setTop (mkF m 5 #[.val (.ref o0), .val (.long q1), .second] [(.long (0 : Int64)), (.ref b0)])) (fun t k => XS.lconst X1.here hx rfl (hb hby own_d_prog_5_2_4) k) ?_
  refine own_by (V := T1.setTop (mkF m 6 #[.val (.ref o0), .val (.long q1), .second] [(.long q1), (.long (0 : Int64)), (.ref b0)])) (fun t k => XS.lloadN X1.here hx rfl (hb hby own_d_prog_5_2_5) rfl  k) ?_
  obtain ⟨_, _, ⟨T2, Lq2, kq2, nq2⟩, -, X2, ⟨Lc2, hQ2, lq2, yq2, zq2⟩, st2⟩ := Jvm.LawKit.callS X1 hx (y := (⟨"java/lang/Math", "max", "(JJ)J"⟩ : MethodName)) hown (mvT hZ (hw _ (List.mem_of_getElem? (i := 18) rfl))) (mvT hZ (hw _ (List.mem_of_getElem? (i := 19) rfl))) (mvT hZ (hw _ (List.mem_of_getElem? (i := 20) rfl))) (mvT hZ (hw _ (List.mem_of_getElem? (i := 21) rfl))) (by decide) (backOf (W := 1) (own_rmax l Z a0 hw [] (0 : Int64) q1 h0 n0) hZ (hw _ (List.mem_of_getElem? (i := 21) rfl)) (hw _ (List.mem_of_getElem? (i := 20) rfl)) (by decide) (by decide)) (g := (mkF m 6 #[.val (.ref o0), .val (.long q1), .second] [(.long q1), (.long (0 : Int64)), (.ref b0)])) rfl (by rw [hml]; rfl) (argsL := [(.long (0 : Int64)), (.long q1)]) (rest := [(.ref b0)]) (lenOf own_pd2 rfl) rfl (by show 2 * 0 + _ ≤ _; exact Nat.le_of_eq rfl) (hb hby own_d_prog_5_2_6) (fun _ _ => ⟨rfl, e1, (by decide : 0 + 0 ≤ _), (by decide : 0 + 0 ≤ _)⟩)
  dsimp only [Pt.U, Pt.locs, Pt.cells, Pt.slots] at X2 lq2 yq2 zq2 st2 hQ2
  subst lq2 yq2 zq2
  obtain ⟨rfl, N2q, e2⟩ := hQ2
  have N2 := Fr.app N0 N2q
  refine own_by (V := T2.setTop (mkF m 9 #[.val (.ref o0), .val (.long q1), .second] [(.long (own_max (0 : Int64) q1)), (.ref b0)])) st2 ?_
  obtain ⟨_, _, ⟨T3, Lq3, kq3, nq3⟩, -, X3, ⟨Lc3, hQ3, lq3, yq3, zq3⟩, st3⟩ := Jvm.LawKit.callS X2 hx (y := (⟨"com/example/nocord/nocord/bench/Latencies", "bucket", "(J)I"⟩ : MethodName)) hown (mvT hZ (hw _ (List.mem_of_getElem? (i := 22) rfl))) (mvT hZ (hw _ (List.mem_of_getElem? (i := 23) rfl))) (mvT hZ (hw _ (List.mem_of_getElem? (i := 3) rfl))) (mvT hZ (hw _ (List.mem_of_getElem? (i := 24) rfl))) (by decide) (backOf (W := 1) (own_rbkt l Z a0 hw [] (own_max (0 : Int64) q1) h0 n0 Z0 (own_max0 _)) hZ (hw _ (List.mem_of_getElem? (i := 24) rfl)) (hw _ (List.mem_of_getElem? (i := 3) rfl)) (by decide) (by decide)) (g := (mkF m 9 #[.val (.ref o0), .val (.long q1), .second] [(.long (own_max (0 : Int64) q1)), (.ref b0)])) rfl (by rw [hml]; rfl) (argsL := [(.long (own_max (0 : Int64) q1))]) (rest := [(.ref b0)]) (lenOf own_pd1 rfl) rfl (by show 2 * 0 + _ ≤ _; exact Nat.le_of_eq rfl) (hb hby own_d_prog_5_2_9) (fun _ _ => ⟨rfl, e2, (by decide : 0 + 0 ≤ _), (by decide : 0 + 0 ≤ _)⟩)
  dsimp only [Pt.U, Pt.locs, Pt.cells, Pt.slots] at X3 lq3 yq3 zq3 st3 hQ3
  subst lq3 yq3 zq3
  obtain ⟨kk3, rfl, N3q, e3, g3_0⟩ := hQ3
  have N3 := Fr.app N2 N3q
  refine own_by (V := T3.setTop (mkF m 12 #[.val (.ref o0), .val (.long q1), .second] [(.int kk3), (.ref b0)])) st3 ?_
  refine own_by (V := T3.setTop (mkF m 13 #[.val (.ref o0), .val (.long q1), .second] [(.int kk3), (.ref b0), (.int kk3), (.ref b0)])) (fun t k => Jvm.Free.XT.dup2 X3.here hx rfl (hb hby own_d_prog_5_2_12) rfl rfl rfl k) ?_
  obtain ⟨cl4, Ar4, qa4, Sa4, Ha4⟩ := id A0
  refine own_by (V := T3.setTop (mkF m 14 #[.val (.ref o0), .val (.long q1), .second] [(.long (f0 kk3.toNatClampNeg)), (.int kk3), (.ref b0)])) (X3.laload hx (j := kk3) (v := .long (f0 kk3.toNatClampNeg)) (by rw [e3]; exact Ar4.1) (State.isArrayOf_alike hZ.alike Ar4.2.1) Ar4.2.2 (own_inb Sa4 g3_0) (Ha4 _ (own_nat g3_0).1) (g := (mkF m 13 #[.val (.ref o0), .val (.long q1), .second] [(.int kk3), (.ref b0), (.int kk3), (.ref b0)])) rfl rfl (hb hby own_d_prog_5_2_13)) ?_
  refine own_by (V := T3.setTop (mkF m 15 #[.val (.ref o0), .val (.long q1), .second] [(.long (1 : Int64)), (.long (f0 kk3.toNatClampNeg)), (.int kk3), (.ref b0)])) (fun t k => XS.lconst X3.here hx rfl (hb hby own_d_prog_5_2_14) k) ?_
  refine own_by (V := T3.setTop (mkF m 16 #[.val (.ref o0), .val (.long q1), .second] [(.long ((f0 kk3.toNatClampNeg) + (1 : Int64))), (.int kk3), (.ref b0)])) (fun t k => XS.ladd X3.here hx rfl (hb hby own_d_prog_5_2_15) rfl k) ?_
  obtain ⟨cl5, Ar5, qa5, Sa5, Ha5⟩ := id A0
  obtain ⟨T6, h6, X6, e6, W6, st6⟩ := stJ X3 hx hZ e3 Ar5 (j := kk3) (own_inb Sa5 g3_0) (g := (mkF m 16 #[.val (.ref o0), .val (.long q1), .second] [(.long ((f0 kk3.toNatClampNeg) + (1 : Int64))), (.int kk3), (.ref b0)])) rfl rfl (hb hby own_d_prog_5_2_16)
  have N6 := Fr.snoc X6 N3 gb0
  have K6 := (Keep.refl h0 [o0, b0]).wr W6 (Or.inl (List.mem_of_getElem? (i := 1) rfl))
  have Zs6 : n0 ≤ h6.size := by rw [W6.size]; exact Z0
  have f7 := E0.wr W6
  have f8 := Fc0.other W6 (Or.inl hne)
  have f9 := Ft0.other W6 (Or.inl hne)
  have V6 : own_Arf Z h6 b0 k0 (own_upd f0 kk3.toNatClampNeg ((f0 kk3.toNatClampNeg) + (1 : Int64))) := own_Arf.set Ar5 qa5 Sa5 Ha5 W6
  refine own_by (V := T6.setTop (mkF m 17 #[.val (.ref o0), .val (.long q1), .second] [])) st6 ?_
  refine own_by (V := T6.setTop (mkF m 18 #[.val (.ref o0), .val (.long q1), .second] [(.ref o0)])) (fun t k => XS.aloadN X6.here hx rfl (hb hby own_d_prog_5_2_17) rfl rfl k) ?_
  refine own_by (V := T6.setTop (mkF m 19 #[.val (.ref o0), .val (.long q1), .second] [(.ref o0), (.ref o0)])) (fun t k => XS.dup X6.here hx rfl (hb hby own_d_prog_5_2_18) rfl rfl k) ?_
  obtain ⟨T10, X10, e10, st10⟩ := getF X6 hx hZ hown (host := "") (Or.inl (hw _ (List.mem_of_getElem? (i := 26) rfl))) Via.refl e6 f9 (g := (mkF m 19 #[.val (.ref o0), .val (.long q1), .second] [(.ref o0), (.ref o0)])) rfl rfl (hb hby own_d_prog_5_2_19)
  refine own_by (V := T10.setTop (mkF m 22 #[.val (.ref o0), .val (.long q1), .second] [(.long t0), (.ref o0)])) st10 ?_
  refine own_by (V := T10.setTop (mkF m 23 #[.val (.ref o0), .val (.long q1), .second] [(.long (1 : Int64)), (.long t0), (.ref o0)])) (fun t k => XS.lconst X10.here hx rfl (hb hby own_d_prog_5_2_22) k) ?_
  refine own_by (V := T10.setTop (mkF m 24 #[.val (.ref o0), .val (.long q1), .second] [(.long (t0 + (1 : Int64))), (.ref o0)])) (fun t k => XS.ladd X10.here hx rfl (hb hby own_d_prog_5_2_23) rfl k) ?_
  obtain ⟨T11, h11, X11, e11, W11, st11⟩ := putF X10 hx hZ hown (host := "") (Or.inl (hw _ (List.mem_of_getElem? (i := 26) rfl))) Via.refl e10 f9 f7 (Or.inl (hw _ (List.mem_of_getElem? (i := 27) rfl))) (hw _ (List.mem_of_getElem? (i := 2) rfl)) (ty := .long) (by decide) rfl rfl (g := (mkF m 24 #[.val (.ref o0), .val (.long q1), .second] [(.long (t0 + (1 : Int64))), (.ref o0)])) rfl rfl (hb hby own_d_prog_5_2_24)
  have N11 := Fr.snoc X11 N6 g0
  have K11 := K6.wr W11 (Or.inl (List.mem_of_getElem? (i := 0) rfl))
  have Zs11 : n0 ≤ h11.size := by rw [W11.size]; exact Zs6
  have f12 := f7.wr W11
  have f13 := f8.other W11 (Or.inr (slot_ne (Or.inr (hw _ (List.mem_of_getElem? (i := 12) rfl))) (Or.inl (hw _ (List.mem_of_getElem? (i := 27) rfl))) (by decide) (t := (.array .long)) (t' := .long) (by decide) (by decide)))
  have f14 := f9.same W11
  have f15 := V6.other W11 (Ne.symm hne)
  refine own_by (V := T11.setTop (mkF m 27 #[.val (.ref o0), .val (.long q1), .second] [])) st11 ?_
  refine own_ret0 X11 hx hlk e11 Bd.returns (hb hby own_d_prog_5_2_27) ?_ (by decide) (by decide)
  exact ⟨kk3, rfl, N11, K11, f12, f13, f14, f15, g3_0⟩
def own_Q_own_rcnt (Z : State) (o0 : Addr) (t0 : Int64) (h0 : Heap) (n0 : Nat) : Option Value → Heap → List Loc → Prop := fun v h L => v = some (.long t0) ∧ Fr n0 L ∧ h = h0
theorem own_ef_own_rcnt (m : MethodId) (x0 : Addr) : entryFrame m #[(.ref x0)] 1 = mkF m 0 #[.val (.ref x0)] [] := by first | (simp [entryFrame, mkF, argsToLocals, Value.category]; done) | rfl
set_option maxRecDepth 65536 in
set_option maxHeartbeats 40000000 in
theorem own_rcnt (l : Launch) (Z : State) (a0 : Array Value) (hw : ∀ d ∈ tables_1, d.before a0 Z = true) (ws : List Jvm.Cond) (o0 : Addr) (t0 : Int64) (h0 : Heap) (n0 : Nat) (Ft0 : Fld Z h0 o0 "com/example/nocord/nocord/bench/Latencies" "total" "J" (.long t0)) :
    MetFree l (⟨"com/example/nocord/nocord/bench/Latencies", "count", "()J"⟩ : MethodName) (head1 (Jvm.Cond.code (⟨"com/example/nocord/nocord/bench/Latencies", "count", "()J"⟩ : MethodName) prog_5_method_4_code 1 (some .long) :: ws) ({ frames := 0, cells := 0, slots := 0, locals := 0 } : Room)) (fun a U => a = #[(.ref o0)] ∧ Z.Warmed39 U.vm ∧ U.heap = h0) (fun _ _ _ _ _ => True) (fun _ U o U' => ∃ v L, o = .returned v ∧ (own_Q_own_rcnt Z o0 t0 h0 n0) v U'.heap L ∧ FrameEnd U o U' L ({ frames := 0, cells := 0, slots := 0, locals := 0 } : Room).cells ({ frames := 0, cells := 0, slots := 0, locals := 0 } : Room).slots) := by
  refine MetFree.of_bodySF (plainFor_of_name own_pn2) hisR ?_
  intro p e s m args below meth c s₁ Bd hml0 hP hK
  obtain ⟨rfl, hZ, hh⟩ := hP
  have hx := Bd.exec
  have hby := Bd.bytes
  have hml : c.maxLocals = 1 := hml0
  have hown : s.vm.findClass "com/example/nocord/nocord/bench/Latencies" = some m.cls := findClass_of_methodNamed Bd.named
  have hnm := (name_of_methodNamed Bd.named Bd.method).1
  have hlk : meth.locks = false := BodyLoose.notSynchronized Bd
  have X0 : Stand p l e ({ frames := 0, cells := 0, slots := 0, locals := 0 } : Room) s m #[(.ref o0)] below meth c s₁ [] 0 0 := Stand.of_body Bd
  have e0 : s₁.heap = h0 := by rw [← hh, Bd.state]; rfl
  have N0 := Fr.nil n0
  show own_Ends p e below s (own_Q_own_rcnt Z o0 t0 h0 n0) ({ frames := 0, cells := 0, slots := 0, locals := 0 } : Room).cells ({ frames := 0, cells := 0, slots := 0, locals := 0 } : Room).slots _
  refine own_by (V := s₁.setTop (mkF m 0 #[.val (.ref o0)] [])) (fun t k => castTop (own_ef_own_rcnt m o0) k) ?_
  refine own_by (V := s₁.setTop (mkF m 1 #[.val (.ref o0)] [(.ref o0)])) (fun t k => XS.aloadN X0.here hx rfl (hb hby own_d_prog_5_4_0) rfl rfl k) ?_
  obtain ⟨T1, X1, e1, st1⟩ := getF X0 hx hZ hown (host := "") (Or.inl (hw _ (List.mem_of_getElem? (i := 26) rfl))) Via.refl e0 Ft0 (g := (mkF m 1 #[.val (.ref o0)] [(.ref o0)])) rfl rfl (hb hby own_d_prog_5_4_1)
  refine own_by (V := T1.setTop (mkF m 4 #[.val (.ref o0)] [(.long t0)])) st1 ?_
  refine own_retL X1 hx hlk e1 Bd.returns (hb hby own_d_prog_5_4_4) ?_ (by decide) (by decide)
  exact ⟨congrArg (fun z => some (Value.long z)) (show t0 = t0 from by rfl), N0, rfl⟩
def own_Q_own_radd (Z : State) (o0 : Addr) (o1 : Addr) (b0 : Addr) (k0 : ClassId) (f0 : Nat → Int64) (t0 : Int64) (b1 : Addr) (k1 : ClassId) (f1 : Nat → Int64) (t1 : Int64) (h0 : Heap) (n0 : Nat) : Option Value → Heap → List Loc → Prop := fun v h L => v = none ∧ Fr n0 L ∧ Keep h0 h [o0, b0] ∧ Exa Z h o0 "com/example/nocord/nocord/bench/Latencies" ∧ Fld Z h o0 "com/example/nocord/nocord/bench/Latencies" "counts" "[J" (.ref b0) ∧ Fld Z h o0 "com/example/nocord/nocord/bench/Latencies" "total" "J" (.long (t0 + t1)) ∧ own_Arf Z h b0 k0 (own_addf f0 f1 7296)
theorem own_ef_own_radd (m : MethodId) (x0 : Addr) (x1 : Addr) : entryFrame m #[(.ref x0), (.ref x1)] 3 = mkF m 0 #[.val (.ref x0), .val (.ref x1), .unset] [] := by first | (simp [entryFrame, mkF, argsToLocals, Value.category]; done) | rfl
set_option maxRecDepth 65536 in
set_option maxHeartbeats 40000000 in
theorem own_radd (l : Launch) (Z : State) (a0 : Array Value) (hw : ∀ d ∈ tables_1, d.before a0 Z = true) (ws : List Jvm.Cond) (o0 : Addr) (o1 : Addr) (b0 : Addr) (k0 : ClassId) (f0 : Nat → Int64) (t0 : Int64) (b1 : Addr) (k1 : ClassId) (f1 : Nat → Int64) (t1 : Int64) (h0 : Heap) (n0 : Nat) (Z0 : n0 ≤ h0.size) (g0 : n0 ≤ o0) (gb0 : n0 ≤ b0) (hne : o0 ≠ b0) (E0 : Exa Z h0 o0 "com/example/nocord/nocord/bench/Latencies") (Fc0 : Fld Z h0 o0 "com/example/nocord/nocord/bench/Latencies" "counts" "[J" (.ref b0)) (Ft0 : Fld Z h0 o0 "com/example/nocord/nocord/bench/Latencies" "total" "J" (.long t0)) (A0 : own_Arf Z h0 b0 k0 f0) (E1 : Exa Z h0 o1 "com/example/nocord/nocord/bench/Latencies") (Fc1 : Fld Z h0 o1 "com/example/nocord/nocord/bench/Latencies" "counts" "[J" (.ref b1)) (Ft1 : Fld Z h0 o1 "com/example/nocord/nocord/bench/Latencies" "total" "J" (.long t1)) (A1 : own_Arf Z h0 b1 k1 f1) (n1 : o1 ≠ b0) (n2 : b1 ≠ b0) (n3 : o1 ≠ o0) (n4 : b1 ≠ o0) :
    MetFree l (⟨"com/example/nocord/nocord/bench/Latencies", "add", "(Lcom/example/nocord/nocord/bench/Latencies;)V"⟩ : MethodName) (head1 (Jvm.Cond.code (⟨"com/example/nocord/nocord/bench/Latencies", "add", "(Lcom/example/nocord/nocord/bench/Latencies;)V"⟩ : MethodName) prog_5_method_3_code 3 none :: ws) ({ frames := 0, cells := 0, slots := 0, locals := 0 } : Room)) (fun a U => a = #[(.ref o0), (.ref o1)] ∧ Z.Warmed39 U.vm ∧ U.heap = h0) (fun _ _ _ _ _ => True) (fun _ U o U' => ∃ v L, o = .returned v ∧ (own_Q_own_radd Z o0 o1 b0 k0 f0 t0 b1 k1 f1 t1 h0 n0) v U'.heap L ∧ FrameEnd U o U' L ({ frames := 0, cells := 0, slots := 0, locals := 0 } : Room).cells ({ frames := 0, cells := 0, slots := 0, locals := 0 } : Room).slots) := by
  refine MetFree.of_bodySF (plainFor_of_name own_pn2) hisR ?_
  intro p e s m args below meth c s₁ Bd hml0 hP hK
  obtain ⟨rfl, hZ, hh⟩ := hP
  have hx := Bd.exec
  have hby := Bd.bytes
  have hml : c.maxLocals = 3 := hml0
  have hown : s.vm.findClass "com/example/nocord/nocord/bench/Latencies" = some m.cls := findClass_of_methodNamed Bd.named
  have hnm := (name_of_methodNamed Bd.named Bd.method).1
  have hlk : meth.locks = false := BodyLoose.notSynchronized Bd
  have X0 : Stand p l e ({ frames := 0, cells := 0, slots := 0, locals := 0 } : Room) s m #[(.ref o0), (.ref o1)] below meth c s₁ [] 0 0 := Stand.of_body Bd
  have e0 : s₁.heap = h0 := by rw [← hh, Bd.state]; rfl
  have N0 := Fr.nil n0
  show own_Ends p e below s (own_Q_own_radd Z o0 o1 b0 k0 f0 t0 b1 k1 f1 t1 h0 n0) ({ frames := 0, cells := 0, slots := 0, locals := 0 } : Room).cells ({ frames := 0, cells := 0, slots := 0, locals := 0 } : Room).slots _
  refine own_by (V := s₁.setTop (mkF m 0 #[.val (.ref o0), .val (.ref o1), .unset] [])) (fun t k => castTop (own_ef_own_radd m o0 o1) k) ?_
  refine own_by (V := s₁.setTop (mkF m 1 #[.val (.ref o0), .val (.ref o1), .unset] [(.int (0 : Int32))])) (fun t k => XS.iconst X0.here hx rfl (hb hby own_d_prog_5_3_0) k) ?_
  refine own_by (V := s₁.setTop (mkF m 2 #[.val (.ref o0), .val (.ref o1), .val (.int (0 : Int32))] [])) (fun t k => XS.istoreN X0.here hx rfl (hb hby own_d_prog_5_3_1) rfl (l' := #[.val (.ref o0), .val (.ref o1), .val (.int (0 : Int32))]) rfl k) ?_
  have J1 : ∀ (fu : Nat) (T1 : State) (h1 : Heap) (l1 : List Loc) (iv : Int32) (ix : Nat) (X1 : Stand p l e ({ frames := 0, cells := 0, slots := 0, locals := 0 } : Room) s m #[(.ref o0), (.ref o1)] below meth c T1 l1 0 0) (e1 : T1.heap = h1) (N1 : Fr n0 l1) (hix : iv.toInt = (ix : Int)) (hfu : ix + fu = 7296) (lK : Keep h0 h1 [o0, b0]) (lZs : n0 ≤ h1.size) (lE0 : Exa Z h1 o0 "com/example/nocord/nocord/bench/Latencies") (lFc0 : Fld Z h1 o0 "com/example/nocord/nocord/bench/Latencies" "counts" "[J" (.ref b0)) (lFt0 : Fld Z h1 o0 "com/example/nocord/nocord/bench/Latencies" "total" "J" (.long t0)) (lA0 : own_Arf Z h1 b0 k0 (own_addf f0 f1 ix)) (lE1 : Exa Z h1 o1 "com/example/nocord/nocord/bench/Latencies") (lFc1 : Fld Z h1 o1 "com/example/nocord/nocord/bench/Latencies" "counts" "[J" (.ref b1)) (lFt1 : Fld Z h1 o1 "com/example/nocord/nocord/bench/Latencies" "total" "J" (.long t1)) (lA1 : own_Arf Z h1 b1 k1 f1), own_Ends p e below s (own_Q_own_radd Z o0 o1 b0 k0 f0 t0 b1 k1 f1 t1 h0 n0) ({ frames := 0, cells := 0, slots := 0, locals := 0 } : Room).cells ({ frames := 0, cells := 0, slots := 0, locals := 0 } : Room).slots (T1.setTop (mkF m 2 #[.val (.ref o0), .val (.ref o1), .val (.int iv)] [])) := by
    intro fu
    induction fu with
    | zero =>
      intro T1 h1 l1 iv ix X1 e1 N1 hix hfu lK lZs lE0 lFc0 lFt0 lA0 lE1 lFc1 lFt1 lA1
      have hx7 : ix = 7296 := (by omega)
      subst hx7
      refine own_by (V := T1.setTop (mkF m 3 #[.val (.ref o0), .val (.ref o1), .val (.int iv)] [(.int iv)])) (fun t k => XS.iloadN X1.here hx rfl (hb hby own_d_prog_5_3_2) rfl  k) ?_
      refine own_by (V := T1.setTop (mkF m 4 #[.val (.ref o0), .val (.ref o1), .val (.int iv)] [(.ref o0), (.int iv)])) (fun t k => XS.aloadN X1.here hx rfl (hb hby own_d_prog_5_3_3) rfl rfl k) ?_
      obtain ⟨T2, X2, e2, st2⟩ := getF X1 hx hZ hown (host := "") (Or.inl (hw _ (List.mem_of_getElem? (i := 11) rfl))) Via.refl e1 lFc0 (g := (mkF m 4 #[.val (.ref o0), .val (.ref o1), .val (.int iv)] [(.ref o0), (.int iv)])) rfl rfl (hb hby own_d_prog_5_3_4)
      refine own_by (V := T2.setTop (mkF m 7 #[.val (.ref o0), .val (.ref o1), .val (.int iv)] [(.ref b0), (.int iv)])) st2 ?_
      obtain ⟨cl3, Ar3, qa3, Sa3, Ha3⟩ := id lA0
      have hl3 : cl3.slots.size.toInt32 = (7296 : Int32) := by rw [Sa3]; rfl
      refine own_by (V := T2.setTop (mkF m 8 #[.val (.ref o0), .val (.ref o1), .val (.int iv)] [(.int (7296 : Int32)), (.int iv)])) (by have q := X2.arraylength hx (cell := cl3) (by rw [e2]; exact Ar3.1) (State.isArrayOf_alike hZ.alike Ar3.2.1) (g := (mkF m 7 #[.val (.ref o0), .val (.ref o1), .val (.int iv)] [(.ref b0), (.int iv)])) rfl (rest := [(.int iv)]) rfl (hb hby own_d_prog_5_3_7); rw [hl3] at q; exact q) ?_
      have hb8_4 : ¬ (iv < (7296 : Int32)) := (fun u => by have q := Int32.lt_iff_toInt_lt.mp u; have e : (7296 : Int32).toInt = 7296 := rfl; omega)
      refine own_by (V := T2.setTop (mkF m 32 #[.val (.ref o0), .val (.ref o1), .val (.int iv)] [])) (fun t k => XS.icmpYes X2.here hx rfl (pc0 := 8) (pc' := 32) rfl (hb hby own_d_prog_5_3_8) rfl (flt hb8_4).2.1 (by decide) (by decide) k) ?_
      refine own_by (V := T2.setTop (mkF m 33 #[.val (.ref o0), .val (.ref o1), .val (.int iv)] [(.ref o0)])) (fun t k => XS.aloadN X2.here hx rfl (hb hby own_d_prog_5_3_32) rfl rfl k) ?_
      refine own_by (V := T2.setTop (mkF m 34 #[.val (.ref o0), .val (.ref o1), .val (.int iv)] [(.ref o0), (.ref o0)])) (fun t k => XS.dup X2.here hx rfl (hb hby own_d_prog_5_3_33) rfl rfl k) ?_
      obtain ⟨T5, X5, e5, st5⟩ := getF X2 hx hZ hown (host := "") (Or.inl (hw _ (List.mem_of_getElem? (i := 26) rfl))) Via.refl e2 lFt0 (g := (mkF m 34 #[.val (.ref o0), .val (.ref o1), .val (.int iv)] [(.ref o0), (.ref o0)])) rfl rfl (hb hby own_d_prog_5_3_34)
      refine own_by (V := T5.setTop (mkF m 37 #[.val (.ref o0), .val (.ref o1), .val (.int iv)] [(.long t0), (.ref o0)])) st5 ?_
      refine own_by (V := T5.setTop (mkF m 38 #[.val (.ref o0), .val (.ref o1), .val (.int iv)] [(.ref o1), (.long t0), (.ref o0)])) (fun t k => XS.aloadN X5.here hx rfl (hb hby own_d_prog_5_3_37) rfl rfl k) ?_
      obtain ⟨T6, X6, e6, st6⟩ := getF X5 hx hZ hown (host := "") (Or.inl (hw _ (List.mem_of_getElem? (i := 26) rfl))) Via.refl e5 lFt1 (g := (mkF m 38 #[.val (.ref o0), .val (.ref o1), .val (.int iv)] [(.ref o1), (.long t0), (.ref o0)])) rfl rfl (hb hby own_d_prog_5_3_38)
      refine own_by (V := T6.setTop (mkF m 41 #[.val (.ref o0), .val (.ref o1), .val (.int iv)] [(.long t1), (.long t0), (.ref o0)])) st6 ?_
      refine own_by (V := T6.setTop (mkF m 42 #[.val (.ref o0), .val (.ref o1), .val (.int iv)] [(.long (t0 + t1)), (.ref o0)])) (fun t k => XS.ladd X6.here hx rfl (hb hby own_d_prog_5_3_41) rfl k) ?_
      obtain ⟨T7, h7, X7, e7, W7, st7⟩ := putF X6 hx hZ hown (host := "") (Or.inl (hw _ (List.mem_of_getElem? (i := 26) rfl))) Via.refl e6 lFt0 lE0 (Or.inl (hw _ (List.mem_of_getElem? (i := 27) rfl))) (hw _ (List.mem_of_getElem? (i := 2) rfl)) (ty := .long) (by decide) rfl rfl (g := (mkF m 42 #[.val (.ref o0), .val (.ref o1), .val (.int iv)] [(.long (t0 + t1)), (.ref o0)])) rfl rfl (hb hby own_d_prog_5_3_42)
      have N7 := Fr.snoc X7 N1 g0
      have K7 := lK.wr W7 (Or.inl (List.mem_of_getElem? (i := 0) rfl))
      have Zs7 : n0 ≤ h7.size := by rw [W7.size]; exact lZs
      have f8 := lE0.wr W7
      have f9 := lFc0.other W7 (Or.inr (slot_ne (Or.inr (hw _ (List.mem_of_getElem? (i := 12) rfl))) (Or.inl (hw _ (List.mem_of_getElem? (i := 27) rfl))) (by decide) (t := (.array .long)) (t' := .long) (by decide) (by decide)))
      have f10 := lFt0.same W7
      have f11 := lA0.other W7 hne.symm
      have f12 := lE1.wr W7
      have f13 := lFc1.other W7 (Or.inl n3)
      have f14 := lFt1.other W7 (Or.inl n3)
      have f15 := lA1.other W7 n4
      refine own_by (V := T7.setTop (mkF m 45 #[.val (.ref o0), .val (.ref o1), .val (.int iv)] [])) st7 ?_
      refine own_ret0 X7 hx hlk e7 Bd.returns (hb hby own_d_prog_5_3_45) ?_ (by decide) (by decide)
      exact ⟨rfl, N7, K7, f8, f9, f10, f11⟩
    | succ fu ih =>
      intro T1 h1 l1 iv ix X1 e1 N1 hix hfu lK lZs lE0 lFc0 lFt0 lA0 lE1 lFc1 lFt1 lA1
      have hbk : own_bk iv := ⟨by omega, by omega⟩
      refine own_by (V := T1.setTop (mkF m 3 #[.val (.ref o0), .val (.ref o1), .val (.int iv)] [(.int iv)])) (fun t k => XS.iloadN X1.here hx rfl (hb hby own_d_prog_5_3_2) rfl  k) ?_
      refine own_by (V := T1.setTop (mkF m 4 #[.val (.ref o0), .val (.ref o1), .val (.int iv)] [(.ref o0), (.int iv)])) (fun t k => XS.aloadN X1.here hx rfl (hb hby own_d_prog_5_3_3) rfl rfl k) ?_
      obtain ⟨T16, X16, e16, st16⟩ := getF X1 hx hZ hown (host := "") (Or.inl (hw _ (List.mem_of_getElem? (i := 11) rfl))) Via.refl e1 lFc0 (g := (mkF m 4 #[.val (.ref o0), .val (.ref o1), .val (.int iv)] [(.ref o0), (.int iv)])) rfl rfl (hb hby own_d_prog_5_3_4)
      refine own_by (V := T16.setTop (mkF m 7 #[.val (.ref o0), .val (.ref o1), .val (.int iv)] [(.ref b0), (.int iv)])) st16 ?_
      obtain ⟨cl17, Ar17, qa17, Sa17, Ha17⟩ := id lA0
      have hl17 : cl17.slots.size.toInt32 = (7296 : Int32) := by rw [Sa17]; rfl
      refine own_by (V := T16.setTop (mkF m 8 #[.val (.ref o0), .val (.ref o1), .val (.int iv)] [(.int (7296 : Int32)), (.int iv)])) (by have q := X16.arraylength hx (cell := cl17) (by rw [e16]; exact Ar17.1) (State.isArrayOf_alike hZ.alike Ar17.2.1) (g := (mkF m 7 #[.val (.ref o0), .val (.ref o1), .val (.int iv)] [(.ref b0), (.int iv)])) rfl (rest := [(.int iv)]) rfl (hb hby own_d_prog_5_3_7); rw [hl17] at q; exact q) ?_
      have hb8_18 : (iv < (7296 : Int32)) := (Int32.lt_iff_toInt_lt.mpr (show iv.toInt < (7296 : Int) by omega))
      refine own_by (V := T16.setTop (mkF m 11 #[.val (.ref o0), .val (.ref o1), .val (.int iv)] [])) (fun t k => XS.icmpNo X16.here hx rfl (hb hby own_d_prog_5_3_8) rfl (tlt hb8_18).2.1 k) ?_
      refine own_by (V := T16.setTop (mkF m 12 #[.val (.ref o0), .val (.ref o1), .val (.int iv)] [(.ref o0)])) (fun t k => XS.aloadN X16.here hx rfl (hb hby own_d_prog_5_3_11) rfl rfl k) ?_
      obtain ⟨T19, X19, e19, st19⟩ := getF X16 hx hZ hown (host := "") (Or.inl (hw _ (List.mem_of_getElem? (i := 11) rfl))) Via.refl e16 lFc0 (g := (mkF m 12 #[.val (.ref o0), .val (.ref o1), .val (.int iv)] [(.ref o0)])) rfl rfl (hb hby own_d_prog_5_3_12)
      refine own_by (V := T19.setTop (mkF m 15 #[.val (.ref o0), .val (.ref o1), .val (.int iv)] [(.ref b0)])) st19 ?_
      refine own_by (V := T19.setTop (mkF m 16 #[.val (.ref o0), .val (.ref o1), .val (.int iv)] [(.int iv), (.ref b0)])) (fun t k => XS.iloadN X19.here hx rfl (hb hby own_d_prog_5_3_15) rfl  k) ?_
      refine own_by (V := T19.setTop (mkF m 17 #[.val (.ref o0), .val (.ref o1), .val (.int iv)] [(.int iv), (.ref b0), (.int iv), (.ref b0)])) (fun t k => Jvm.Free.XT.dup2 X19.here hx rfl (hb hby own_d_prog_5_3_16) rfl rfl rfl k) ?_
      obtain ⟨cl20, Ar20, qa20, Sa20, Ha20⟩ := id lA0
      refine own_by (V := T19.setTop (mkF m 18 #[.val (.ref o0), .val (.ref o1), .val (.int iv)] [(.long ((own_addf f0 f1 ix) iv.toNatClampNeg)), (.int iv), (.ref b0)])) (X19.laload hx (j := iv) (v := .long ((own_addf f0 f1 ix) iv.toNatClampNeg)) (by rw [e19]; exact Ar20.1) (State.isArrayOf_alike hZ.alike Ar20.2.1) Ar20.2.2 (own_inb Sa20 hbk) (Ha20 _ (own_nat hbk).1) (g := (mkF m 17 #[.val (.ref o0), .val (.ref o1), .val (.int iv)] [(.int iv), (.ref b0), (.int iv), (.ref b0)])) rfl rfl (hb hby own_d_prog_5_3_17)) ?_
      refine own_by (V := T19.setTop (mkF m 19 #[.val (.ref o0), .val (.ref o1), .val (.int iv)] [(.ref o1), (.long ((own_addf f0 f1 ix) iv.toNatClampNeg)), (.int iv), (.ref b0)])) (fun t k => XS.aloadN X19.here hx rfl (hb hby own_d_prog_5_3_18) rfl rfl k) ?_
      obtain ⟨T21, X21, e21, st21⟩ := getF X19 hx hZ hown (host := "") (Or.inl (hw _ (List.mem_of_getElem? (i := 11) rfl))) Via.refl e19 lFc1 (g := (mkF m 19 #[.val (.ref o0), .val (.ref o1), .val (.int iv)] [(.ref o1), (.long ((own_addf f0 f1 ix) iv.toNatClampNeg)), (.int iv), (.ref b0)])) rfl rfl (hb hby own_d_prog_5_3_19)
      refine own_by (V := T21.setTop (mkF m 22 #[.val (.ref o0), .val (.ref o1), .val (.int iv)] [(.ref b1), (.long ((own_addf f0 f1 ix) iv.toNatClampNeg)), (.int iv), (.ref b0)])) st21 ?_
      refine own_by (V := T21.setTop (mkF m 23 #[.val (.ref o0), .val (.ref o1), .val (.int iv)] [(.int iv), (.ref b1), (.long ((own_addf f0 f1 ix) iv.toNatClampNeg)), (.int iv), (.ref b0)])) (fun t k => XS.iloadN X21.here hx rfl (hb hby own_d_prog_5_3_22) rfl  k) ?_
      obtain ⟨cl22, Ar22, qa22, Sa22, Ha22⟩ := id lA1
      refine own_by (V := T21.setTop (mkF m 24 #[.val (.ref o0), .val (.ref o1), .val (.int iv)] [(.long (f1 iv.toNatClampNeg)), (.long ((own_addf f0 f1 ix) iv.toNatClampNeg)), (.int iv), (.ref b0)])) (X21.laload hx (j := iv) (v := .long (f1 iv.toNatClampNeg)) (by rw [e21]; exact Ar22.1) (State.isArrayOf_alike hZ.alike Ar22.2.1) Ar22.2.2 (own_inb Sa22 hbk) (Ha22 _ (own_nat hbk).1) (g := (mkF m 23 #[.val (.ref o0), .val (.ref o1), .val (.int iv)] [(.int iv), (.ref b1), (.long ((own_addf f0 f1 ix) iv.toNatClampNeg)), (.int iv), (.ref b0)])) rfl rfl (hb hby own_d_prog_5_3_23)) ?_
      refine own_by (V := T21.setTop (mkF m 25 #[.val (.ref o0), .val (.ref o1), .val (.int iv)] [(.long (((own_addf f0 f1 ix) iv.toNatClampNeg) + (f1 iv.toNatClampNeg))), (.int iv), (.ref b0)])) (fun t k => XS.ladd X21.here hx rfl (hb hby own_d_prog_5_3_24) rfl k) ?_
      obtain ⟨cl23, Ar23, qa23, Sa23, Ha23⟩ := id lA0
      obtain ⟨T24, h24, X24, e24, W24, st24⟩ := stJ X21 hx hZ e21 Ar23 (j := iv) (own_inb Sa23 hbk) (g := (mkF m 25 #[.val (.ref o0), .val (.ref o1), .val (.int iv)] [(.long (((own_addf f0 f1 ix) iv.toNatClampNeg) + (f1 iv.toNatClampNeg))), (.int iv), (.ref b0)])) rfl rfl (hb hby own_d_prog_5_3_25)
      have N24 := Fr.snoc X24 N1 gb0
      have K24 := lK.wr W24 (Or.inl (List.mem_of_getElem? (i := 1) rfl))
      have Zs24 : n0 ≤ h24.size := by rw [W24.size]; exact lZs
      have f25 := lE0.wr W24
      have f26 := lFc0.other W24 (Or.inl hne)
      have f27 := lFt0.other W24 (Or.inl hne)
      have f28 := lE1.wr W24
      have f29 := lFc1.other W24 (Or.inl n1)
      have f30 := lFt1.other W24 (Or.inl n1)
      have f31 := lA1.other W24 n2
      have V24 : own_Arf Z h24 b0 k0 (own_upd (own_addf f0 f1 ix) iv.toNatClampNeg (((own_addf f0 f1 ix) iv.toNatClampNeg) + (f1 iv.toNatClampNeg))) := own_Arf.set Ar23 qa23 Sa23 Ha23 W24
      refine own_by (V := T24.setTop (mkF m 26 #[.val (.ref o0), .val (.ref o1), .val (.int iv)] [])) st24 ?_
      refine own_by (V := T24.setTop (mkF m 29 #[.val (.ref o0), .val (.ref o1), .val (.int (iv + (1 : Int32)))] [])) (fun t k => XS.iinc X24.here hx rfl (hb hby own_d_prog_5_3_26) rfl (l' := #[.val (.ref o0), .val (.ref o1), .val (.int (iv + (1 : Int32)))]) rfl k) ?_
      refine own_by (V := T24.setTop (mkF m 2 #[.val (.ref o0), .val (.ref o1), .val (.int (iv + (1 : Int32)))] [])) (fun t k => XS.goto X24.here hx rfl (pc0 := 29) (pc' := 2) rfl (hb hby own_d_prog_5_3_29) (by decide) (by decide) k) ?_
      have lA9 := V24
      rw [own_addf_step hix] at lA9
      exact ih T24 _ _ (iv + (1 : Int32)) (ix + 1) (X24.more (by decide) (by decide)) e24 N24 (own_ivinc hix (by omega)) (by omega) K24 Zs24 f25 f26 f27 lA9 f28 f29 f30 f31
  exact J1 7296 s₁ _ _ (0 : Int32) 0 (X0.more (by decide) (by decide)) e0 N0 rfl rfl (Keep.refl h0 [o0, b0]) Z0 E0 Fc0 Ft0 (by rw [own_addf_zero]; exact A0) E1 Fc1 Ft1 A1
set_option maxRecDepth 65536 in
set_option maxHeartbeats 4000000 in
theorem own_ge_v0 {p : Program} {l : Launch} {e : Env} {s B Z : State} {a0 : Array Value} {m : MethodId} {below F : List Frame} {c : Code} {T : State} {n1 n2 : Nat} (hw : ∀ d ∈ tables_1, d.before a0 Z = true) (hZ : Z.Warmed39 s.vm) (X : own_N l e s B below F m c T n1 n2) (hx : p.tables.exec = Jvm.exec) (hown : s.vm.findClass "java/lang/StrictMath" = some m.cls) {g : JFrame} (hg : g.method = m) {rest : List Value} (hs : g.stack = (.double (0 : UInt64)) :: rest) (hd : decode c.code g.pc = .ok (.invokestatic 66, 3)) (h1 : 3 ≤ n1) {w : Nat} (hwd : g.locals.size + 11 + 2 * g.monitorRoom + operandWords rest = w) (h2 : w + 39 ≤ n2) :
    ∃ vm', own_N l e s B below F m c (T.setVm vm') n1 n2 ∧ ∀ t, Steps p.tables e below ((T.setVm vm').setTop { g with pc := g.pc + 3, stack := (.int (-1023 : Int32)) :: rest }) t → Steps p.tables e below (T.setTop g) t := by
  obtain ⟨m', M, cd, U0, Y0, hownm', hM, hlk, hr, hby, k⟩ := X.scall (args := #[]) hx hown (mvT hZ (hw _ (List.mem_of_getElem? (i := 44) rfl))) (mvT hZ (hw _ (List.mem_of_getElem? (i := 45) rfl))) (mvT hZ (hw _ (List.mem_of_getElem? (i := 20) rfl))) (mvT hZ (hw _ (List.mem_of_getElem? (i := 46) rfl))) (Jvm.Free.JP.mathPlain rfl (by decide +kernel)) (by decide) hg (aL := [(.double (0 : UInt64))]) (rest := rest) (fun sig h => by rw [own_pd3] at h; rw [← Option.some.inj h]; rfl) hs hd (by omega) hwd (by omega)
  replace hownm' : s.vm.findClass "java/lang/Math" = some m'.cls := hownm'
  obtain ⟨vg1, Yg1, kg1⟩ := Y0.raw (args := #[]) hx hownm' (mvT hZ (hw _ (List.mem_of_getElem? (i := 47) rfl))) (mvT hZ (hw _ (List.mem_of_getElem? (i := 50) rfl))) (mvT hZ (hw _ (List.mem_of_getElem? (i := 48) rfl))) (mvT hZ (hw _ (List.mem_of_getElem? (i := 49) rfl))) (g := (mkF m' 1 #[.val (.double (0 : UInt64)), .second] [(.double (0 : UInt64))])) rfl (rest := []) rfl (hb hby own_d_jdk_29_92_1) (by omega) (by simp only [mkF, operandWords, List.foldl, Value.category, List.size_toArray, List.length]; omega)
  have kl2 := fun t => own_N.ldcL (args := #[]) Yg1 hx hownm' (mvT hZ (hw _ (List.mem_of_getElem? (i := 51) rfl))) (g := (mkF m' 4 #[.val (.double (0 : UInt64)), .second] [(.long (0 : Int64))])) rfl (hb hby own_d_jdk_29_92_4) (t := t)
  have kl3 := fun t => own_N.ldcL (args := #[]) Yg1 hx hownm' (mvT hZ (hw _ (List.mem_of_getElem? (i := 52) rfl))) (g := (mkF m' 11 #[.val (.double (0 : UInt64)), .second] [(.long (0 : Int64))])) rfl (hb hby own_d_jdk_29_92_11) (t := t)
  refine ⟨(U0.setVm vg1).vm, X.noted Yg1.warmed, fun t kk => k t ?_⟩
  have ef : entryFrame m' ([(.double (0 : UInt64))] : List Value).toArray 2 = (mkF m' 0 #[.val (.double (0 : UInt64)), .second] []) := by first | (simp [entryFrame, mkF, argsToLocals, Value.category]; done) | rfl
  rw [ef]
  refine XS.dloadN Y0.here hx rfl (hb hby own_d_jdk_29_92_0) rfl ?_
  show Steps p.tables e below (U0.setTop (mkF m' 1 #[.val (.double (0 : UInt64)), .second] [(.double (0 : UInt64))])) _
  refine kg1 _ ?_
  refine own_cast (v := (.long (0 : UInt64).toInt64)) (w := (.long (0 : Int64))) (m := m') (pc := 4) (L := #[.val (.double (0 : UInt64)), .second]) (S := []) (congrArg Value.long (by decide +kernel)) ?_
  refine kl2 _ ?_
  show Steps p.tables e below ((U0.setVm vg1).setTop (mkF m' 7 #[.val (.double (0 : UInt64)), .second] [(.long (9218868437227405312 : Int64)), (.long (0 : Int64))])) _
  refine XS.land Yg1.here hx rfl (hb hby own_d_jdk_29_92_7) rfl ?_
  refine own_cast (v := (.long ((0 : Int64) &&& (9218868437227405312 : Int64)))) (w := (.long (0 : Int64))) (m := m') (pc := 8) (L := #[.val (.double (0 : UInt64)), .second]) (S := []) (congrArg Value.long (by decide +kernel)) ?_
  refine XS.bipush Yg1.here hx rfl (hb hby own_d_jdk_29_92_8) ?_
  show Steps p.tables e below ((U0.setVm vg1).setTop (mkF m' 10 #[.val (.double (0 : UInt64)), .second] [(.int (52 : Int32)), (.long (0 : Int64))])) _
  refine XS.lshr Yg1.here hx rfl (hb hby own_d_jdk_29_92_10) rfl ?_
  refine own_cast (v := (.long ((0 : Int64) >>> ((52 : Int32) &&& 0x3f).toInt64))) (w := (.long (0 : Int64))) (m := m') (pc := 11) (L := #[.val (.double (0 : UInt64)), .second]) (S := []) (congrArg Value.long (by decide +kernel)) ?_
  refine kl3 _ ?_
  show Steps p.tables e below ((U0.setVm vg1).setTop (mkF m' 14 #[.val (.double (0 : UInt64)), .second] [(.long (1023 : Int64)), (.long (0 : Int64))])) _
  refine XS.lsub Yg1.here hx rfl (hb hby own_d_jdk_29_92_14) rfl ?_
  refine own_cast (v := (.long ((0 : Int64) - (1023 : Int64)))) (w := (.long (-1023 : Int64))) (m := m') (pc := 15) (L := #[.val (.double (0 : UInt64)), .second]) (S := []) (congrArg Value.long (by decide +kernel)) ?_
  refine XS.l2i Yg1.here hx rfl (hb hby own_d_jdk_29_92_15) rfl ?_
  refine own_cast (v := (.int (-1023 : Int64).toInt32)) (w := (.int (-1023 : Int32))) (m := m') (pc := 16) (L := #[.val (.double (0 : UInt64)), .second]) (S := []) (congrArg Value.int (by decide +kernel)) ?_
  refine own_N.retI (g := { g with stack := rest }) Yg1 (by show own_N l e s B below F g.method c T n1 n2; rw [hg]; exact X) hx hM hlk hr (hb hby own_d_jdk_29_92_16) hd ?_
  exact kk
set_option maxRecDepth 65536 in
set_option maxHeartbeats 4000000 in
theorem own_fo_v0 {p : Program} {l : Launch} {e : Env} {s B Z : State} {a0 : Array Value} {m : MethodId} {below F : List Frame} {c : Code} {T : State} {n1 n2 : Nat} (hw : ∀ d ∈ tables_1, d.before a0 Z = true) (hZ : Z.Warmed39 s.vm) (X : own_N l e s B below F m c T n1 n2) (hx : p.tables.exec = Jvm.exec) (hown : s.vm.findClass "java/lang/StrictMath" = some m.cls) (hS : Sta s B.heap "java/lang/StrictMath" "$assertionsDisabled" "Z" (.int 1)) (hh : T.heap = B.heap) {g : JFrame} (hg : g.method = m) {rest : List Value} (hs : g.stack = (.double (4607182418800017408 : UInt64)) :: (.double (4607182418800017408 : UInt64)) :: (.double (9223372036854775808 : UInt64)) :: (.double (0 : UInt64)) :: rest) (hd : decode c.code g.pc = .ok (.invokestatic 60, 3)) (h1 : 4 ≤ n1) {w : Nat} (hwd : g.locals.size + 11 + 2 * g.monitorRoom + operandWords rest = w) (h2 : w + 86 ≤ n2) :
    ∃ vm', own_N l e s B below F m c (T.setVm vm') n1 n2 ∧ ∀ t, Steps p.tables e below ((T.setVm vm').setTop { g with pc := g.pc + 3, stack := (.double (0 : UInt64)) :: rest }) t → Steps p.tables e below (T.setTop g) t := by
  obtain ⟨m', M, cd, U0, Y0, hownm', hM, hlk, hr, hby, k⟩ := X.scall (args := #[]) hx hown (mvT hZ (hw _ (List.mem_of_getElem? (i := 41) rfl))) (mvT hZ (hw _ (List.mem_of_getElem? (i := 42) rfl))) (mvT hZ (hw _ (List.mem_of_getElem? (i := 38) rfl))) (mvT hZ (hw _ (List.mem_of_getElem? (i := 43) rfl))) (plainFor_of_name (by decide +kernel)) (by decide) hg (aL := [(.double (0 : UInt64)), (.double (9223372036854775808 : UInt64)), (.double (4607182418800017408 : UInt64)), (.double (4607182418800017408 : UInt64))]) (rest := rest) (fun sig h => by rw [own_pd4] at h; rw [← Option.some.inj h]; rfl) hs hd (by omega) hwd (by omega)
  replace hownm' : s.vm.findClass "java/lang/StrictMath" = some m'.cls := hownm'
  obtain ⟨vg1, Yg1, kg1⟩ := own_ge_v0 hw hZ Y0 hx hownm' (g := (mkF m' 1 #[.val (.double (0 : UInt64)), .second, .val (.double (9223372036854775808 : UInt64)), .second, .val (.double (4607182418800017408 : UInt64)), .second, .val (.double (4607182418800017408 : UInt64)), .second, .unset, .unset, .unset, .unset, .unset, .unset, .unset] [(.double (0 : UInt64))])) rfl (rest := []) rfl (hb hby own_d_jdk_128_18_1) (by omega) rfl (by simp only [mkF, operandWords, List.foldl, Value.category, List.size_toArray, List.length]; omega)
  refine ⟨(U0.setVm vg1).vm, X.noted Yg1.warmed, fun t kk => k t ?_⟩
  have ef : entryFrame m' ([(.double (0 : UInt64)), (.double (9223372036854775808 : UInt64)), (.double (4607182418800017408 : UInt64)), (.double (4607182418800017408 : UInt64))] : List Value).toArray 15 = (mkF m' 0 #[.val (.double (0 : UInt64)), .second, .val (.double (9223372036854775808 : UInt64)), .second, .val (.double (4607182418800017408 : UInt64)), .second, .val (.double (4607182418800017408 : UInt64)), .second, .unset, .unset, .unset, .unset, .unset, .unset, .unset] []) := by first | (simp [entryFrame, mkF, argsToLocals, Value.category]; done) | rfl
  rw [ef]
  refine XS.dloadN Y0.here hx rfl (hb hby own_d_jdk_128_18_0) rfl ?_
  show Steps p.tables e below (U0.setTop (mkF m' 1 #[.val (.double (0 : UInt64)), .second, .val (.double (9223372036854775808 : UInt64)), .second, .val (.double (4607182418800017408 : UInt64)), .second, .val (.double (4607182418800017408 : UInt64)), .second, .unset, .unset, .unset, .unset, .unset, .unset, .unset] [(.double (0 : UInt64))])) _
  refine kg1 _ ?_
  show Steps p.tables e below ((U0.setVm vg1).setTop (mkF m' 4 #[.val (.double (0 : UInt64)), .second, .val (.double (9223372036854775808 : UInt64)), .second, .val (.double (4607182418800017408 : UInt64)), .second, .val (.double (4607182418800017408 : UInt64)), .second, .unset, .unset, .unset, .unset, .unset, .unset, .unset] [(.int (-1023 : Int32))])) _
  refine XS.istore Yg1.here hx rfl (hb hby own_d_jdk_128_18_4) rfl (l' := #[.val (.double (0 : UInt64)), .second, .val (.double (9223372036854775808 : UInt64)), .second, .val (.double (4607182418800017408 : UInt64)), .second, .val (.double (4607182418800017408 : UInt64)), .second, .val (.int (-1023 : Int32)), .unset, .unset, .unset, .unset, .unset, .unset]) rfl ?_
  show Steps p.tables e below ((U0.setVm vg1).setTop (mkF m' 6 #[.val (.double (0 : UInt64)), .second, .val (.double (9223372036854775808 : UInt64)), .second, .val (.double (4607182418800017408 : UInt64)), .second, .val (.double (4607182418800017408 : UInt64)), .second, .val (.int (-1023 : Int32)), .unset, .unset, .unset, .unset, .unset, .unset] [])) _
  refine XS.iload Yg1.here hx rfl (hb hby own_d_jdk_128_18_6) rfl ?_
  show Steps p.tables e below ((U0.setVm vg1).setTop (mkF m' 8 #[.val (.double (0 : UInt64)), .second, .val (.double (9223372036854775808 : UInt64)), .second, .val (.double (4607182418800017408 : UInt64)), .second, .val (.double (4607182418800017408 : UInt64)), .second, .val (.int (-1023 : Int32)), .unset, .unset, .unset, .unset, .unset, .unset] [(.int (-1023 : Int32))])) _
  refine XS.ifNo Yg1.here hx rfl (hb hby own_d_jdk_128_18_8) rfl (by decide +kernel) ?_
  show Steps p.tables e below ((U0.setVm vg1).setTop (mkF m' 11 #[.val (.double (0 : UInt64)), .second, .val (.double (9223372036854775808 : UInt64)), .second, .val (.double (4607182418800017408 : UInt64)), .second, .val (.double (4607182418800017408 : UInt64)), .second, .val (.int (-1023 : Int32)), .unset, .unset, .unset, .unset, .unset, .unset] [])) _
  refine XS.dloadN Yg1.here hx rfl (hb hby own_d_jdk_128_18_11) rfl ?_
  show Steps p.tables e below ((U0.setVm vg1).setTop (mkF m' 12 #[.val (.double (0 : UInt64)), .second, .val (.double (9223372036854775808 : UInt64)), .second, .val (.double (4607182418800017408 : UInt64)), .second, .val (.double (4607182418800017408 : UInt64)), .second, .val (.int (-1023 : Int32)), .unset, .unset, .unset, .unset, .unset, .unset] [(.double (0 : UInt64))])) _
  refine XS.dconst0 Yg1.here hx rfl (hb hby own_d_jdk_128_18_12) (v := 0) (by decide +kernel) ?_
  show Steps p.tables e below ((U0.setVm vg1).setTop (mkF m' 13 #[.val (.double (0 : UInt64)), .second, .val (.double (9223372036854775808 : UInt64)), .second, .val (.double (4607182418800017408 : UInt64)), .second, .val (.double (4607182418800017408 : UInt64)), .second, .val (.int (-1023 : Int32)), .unset, .unset, .unset, .unset, .unset, .unset] [(.double (0 : UInt64)), (.double (0 : UInt64))])) _
  refine XS.dcmpS Yg1.here hx rfl (hb hby own_d_jdk_128_18_13) rfl (v := 0) (by decide +kernel) ?_
  show Steps p.tables e below ((U0.setVm vg1).setTop (mkF m' 14 #[.val (.double (0 : UInt64)), .second, .val (.double (9223372036854775808 : UInt64)), .second, .val (.double (4607182418800017408 : UInt64)), .second, .val (.double (4607182418800017408 : UInt64)), .second, .val (.int (-1023 : Int32)), .unset, .unset, .unset, .unset, .unset, .unset] [(.int (0 : Int32))])) _
  refine XS.ifNo Yg1.here hx rfl (hb hby own_d_jdk_128_18_14) rfl (by decide +kernel) ?_
  show Steps p.tables e below ((U0.setVm vg1).setTop (mkF m' 17 #[.val (.double (0 : UInt64)), .second, .val (.double (9223372036854775808 : UInt64)), .second, .val (.double (4607182418800017408 : UInt64)), .second, .val (.double (4607182418800017408 : UInt64)), .second, .val (.int (-1023 : Int32)), .unset, .unset, .unset, .unset, .unset, .unset] [])) _
  refine XS.dloadN Yg1.here hx rfl (hb hby own_d_jdk_128_18_17) rfl ?_
  show Steps p.tables e below ((U0.setVm vg1).setTop (mkF m' 18 #[.val (.double (0 : UInt64)), .second, .val (.double (9223372036854775808 : UInt64)), .second, .val (.double (4607182418800017408 : UInt64)), .second, .val (.double (4607182418800017408 : UInt64)), .second, .val (.int (-1023 : Int32)), .unset, .unset, .unset, .unset, .unset, .unset] [(.double (0 : UInt64))])) _
  refine XS.goto Yg1.here hx rfl (pc0 := 18) (pc' := 33) rfl (hb hby own_d_jdk_128_18_18) (by decide) (by decide) ?_
  show Steps p.tables e below ((U0.setVm vg1).setTop (mkF m' 33 #[.val (.double (0 : UInt64)), .second, .val (.double (9223372036854775808 : UInt64)), .second, .val (.double (4607182418800017408 : UInt64)), .second, .val (.double (4607182418800017408 : UInt64)), .second, .val (.int (-1023 : Int32)), .unset, .unset, .unset, .unset, .unset, .unset] [(.double (0 : UInt64))])) _
  refine own_N.retD (g := { g with stack := rest }) Yg1 (by show own_N l e s B below F g.method c T n1 n2; rw [hg]; exact X) hx hM hlk hr (hb hby own_d_jdk_128_18_33) hd ?_
  exact kk
set_option maxRecDepth 65536 in
set_option maxHeartbeats 4000000 in
theorem own_sc_v0 {p : Program} {l : Launch} {e : Env} {s B Z : State} {a0 : Array Value} {m : MethodId} {below F : List Frame} {c : Code} {T : State} {n1 n2 : Nat} (hw : ∀ d ∈ tables_1, d.before a0 Z = true) (hZ : Z.Warmed39 s.vm) (X : own_N l e s B below F m c T n1 n2) (hx : p.tables.exec = Jvm.exec) (hownm : s.vm.findClass "java/lang/StrictMath" = some m.cls) (hS : Sta s B.heap "java/lang/StrictMath" "$assertionsDisabled" "Z" (.int 1)) (hh : T.heap = B.heap) (hby : c.code = jdk_128_method_16_code) (h1 : 5 ≤ n1) (h2 : 130 ≤ n2) :
    ∃ vm', own_N l e s B below F m c (T.setVm vm') n1 n2 ∧ ∀ t, Steps p.tables e below ((T.setVm vm').setTop (mkF m 9 #[.val (.double (0 : UInt64)), .second] [(.double (0 : UInt64))])) t → Steps p.tables e below (T.setTop (mkF m 0 #[.val (.double (0 : UInt64)), .second] [])) t := by
  have kl1 := fun t => own_N.ldcD (args := #[]) X hx hownm (mvT hZ (hw _ (List.mem_of_getElem? (i := 40) rfl))) (g := (mkF m 1 #[.val (.double (0 : UInt64)), .second] [(.double (0 : UInt64))])) rfl (hb hby own_d_jdk_128_16_1) (t := t)
  obtain ⟨vg2, Yg2, kg2⟩ := own_fo_v0 hw hZ X hx hownm hS hh (g := (mkF m 6 #[.val (.double (0 : UInt64)), .second] [(.double (4607182418800017408 : UInt64)), (.double (4607182418800017408 : UInt64)), (.double (9223372036854775808 : UInt64)), (.double (0 : UInt64))])) rfl (rest := []) rfl (hb hby own_d_jdk_128_16_6) (by omega) rfl (by simp only [mkF, operandWords, List.foldl, Value.category, List.size_toArray, List.length]; omega)
  refine ⟨(T.setVm vg2).vm, Yg2, fun t kk => ?_⟩
  refine XS.dloadN X.here hx rfl (hb hby own_d_jdk_128_16_0) rfl ?_
  show Steps p.tables e below (T.setTop (mkF m 1 #[.val (.double (0 : UInt64)), .second] [(.double (0 : UInt64))])) _
  refine kl1 _ ?_
  show Steps p.tables e below (T.setTop (mkF m 4 #[.val (.double (0 : UInt64)), .second] [(.double (9223372036854775808 : UInt64)), (.double (0 : UInt64))])) _
  refine XS.dconst1 X.here hx rfl (hb hby own_d_jdk_128_16_4) (v := 4607182418800017408) (by decide +kernel) ?_
  show Steps p.tables e below (T.setTop (mkF m 5 #[.val (.double (0 : UInt64)), .second] [(.double (4607182418800017408 : UInt64)), (.double (9223372036854775808 : UInt64)), (.double (0 : UInt64))])) _
  refine XS.dconst1 X.here hx rfl (hb hby own_d_jdk_128_16_5) (v := 4607182418800017408) (by decide +kernel) ?_
  show Steps p.tables e below (T.setTop (mkF m 6 #[.val (.double (0 : UInt64)), .second] [(.double (4607182418800017408 : UInt64)), (.double (4607182418800017408 : UInt64)), (.double (9223372036854775808 : UInt64)), (.double (0 : UInt64))])) _
  refine kg2 _ ?_
  show Steps p.tables e below ((T.setVm vg2).setTop (mkF m 9 #[.val (.double (0 : UInt64)), .second] [(.double (0 : UInt64))])) _
  exact kk
def own_Q_own_rpct_0_1 (Z : State) (o0 : Addr) (b0 : Addr) (k0 : ClassId) (f0 : Nat → Int64) (h0 : Heap) (n0 : Nat) : Option Value → Heap → List Loc → Prop := fun v h L => ∃ (ix : Int32), v = some (.long (own_mid ix)) ∧ Fr n0 L ∧ h = h0 ∧ own_at f0 1 ix
theorem own_ef_own_rpct_0_1 (m : MethodId) (x0 : Addr) : entryFrame m #[(.ref x0), (.double (0 : UInt64))] 8 = mkF m 0 #[.val (.ref x0), .val (.double (0 : UInt64)), .second, .unset, .unset, .unset, .unset, .unset] [] := by first | (simp [entryFrame, mkF, argsToLocals, Value.category]; done) | rfl
set_option maxRecDepth 65536 in
set_option maxHeartbeats 40000000 in
theorem own_rpct_0_1 (l : Launch) (Z : State) (a0 : Array Value) (hw : ∀ d ∈ tables_1, d.before a0 Z = true) (ws : List Jvm.Cond) (o0 : Addr) (b0 : Addr) (k0 : ClassId) (f0 : Nat → Int64) (h0 : Heap) (n0 : Nat) (Z0 : n0 ≤ h0.size) (Fc0 : Fld Z h0 o0 "com/example/nocord/nocord/bench/Latencies" "counts" "[J" (.ref b0)) (Ft0 : Fld Z h0 o0 "com/example/nocord/nocord/bench/Latencies" "total" "J" (.long (1 : Int64))) (A0 : own_Arf Z h0 b0 k0 f0) (hsm : own_small f0) (hsum : own_pre f0 7296 = 1) (SA : Sta Z h0 "java/lang/StrictMath" "$assertionsDisabled" "Z" (.int (1 : Int32))) :
    MetFree l (⟨"com/example/nocord/nocord/bench/Latencies", "percentile", "(D)J"⟩ : MethodName) (head1 (Jvm.Cond.code (⟨"com/example/nocord/nocord/bench/Latencies", "percentile", "(D)J"⟩ : MethodName) prog_5_method_5_code 8 (some .long) :: ws) ({ frames := 7, cells := 0, slots := 0, locals := 132 } : Room)) (fun a U => a = #[(.ref o0), (.double (0 : UInt64))] ∧ Z.Warmed39 U.vm ∧ U.heap = h0) (fun _ _ _ _ _ => True) (fun _ U o U' => ∃ v L, o = .returned v ∧ (own_Q_own_rpct_0_1 Z o0 b0 k0 f0 h0 n0) v U'.heap L ∧ FrameEnd U o U' L ({ frames := 7, cells := 0, slots := 0, locals := 132 } : Room).cells ({ frames := 7, cells := 0, slots := 0, locals := 132 } : Room).slots) := by
  refine MetFree.of_bodySF (plainFor_of_name own_pn2) hisR ?_
  intro p e s m args below meth c s₁ Bd hml0 hP hK
  obtain ⟨rfl, hZ, hh⟩ := hP
  have hx := Bd.exec
  have hby := Bd.bytes
  have hml : c.maxLocals = 8 := hml0
  have hown : s.vm.findClass "com/example/nocord/nocord/bench/Latencies" = some m.cls := findClass_of_methodNamed Bd.named
  have hnm := (name_of_methodNamed Bd.named Bd.method).1
  have hlk : meth.locks = false := BodyLoose.notSynchronized Bd
  have X0 : Stand p l e ({ frames := 7, cells := 0, slots := 0, locals := 132 } : Room) s m #[(.ref o0), (.double (0 : UInt64))] below meth c s₁ [] 0 0 := Stand.of_body Bd
  have e0 : s₁.heap = h0 := by rw [← hh, Bd.state]; rfl
  have N0 := Fr.nil n0
  show own_Ends p e below s (own_Q_own_rpct_0_1 Z o0 b0 k0 f0 h0 n0) ({ frames := 7, cells := 0, slots := 0, locals := 132 } : Room).cells ({ frames := 7, cells := 0, slots := 0, locals := 132 } : Room).slots _
  refine own_by (V := s₁.setTop (mkF m 0 #[.val (.ref o0), .val (.double (0 : UInt64)), .second, .unset, .unset, .unset, .unset, .unset] [])) (fun t k => castTop (own_ef_own_rpct_0_1 m o0) k) ?_
  refine own_by (V := s₁.setTop (mkF m 1 #[.val (.ref o0), .val (.double (0 : UInt64)), .second, .unset, .unset, .unset, .unset, .unset] [(.long (1 : Int64))])) (fun t k => XS.lconst X0.here hx rfl (hb hby own_d_prog_5_5_0) k) ?_
  refine own_by (V := s₁.setTop (mkF m 2 #[.val (.ref o0), .val (.double (0 : UInt64)), .second, .unset, .unset, .unset, .unset, .unset] [(.double (0 : UInt64)), (.long (1 : Int64))])) (fun t k => XS.dloadN X0.here hx rfl (hb hby own_d_prog_5_5_1) rfl  k) ?_
  refine own_by (V := s₁.setTop (mkF m 3 #[.val (.ref o0), .val (.double (0 : UInt64)), .second, .unset, .unset, .unset, .unset, .unset] [(.ref o0), (.double (0 : UInt64)), (.long (1 : Int64))])) (fun t k => XS.aloadN X0.here hx rfl (hb hby own_d_prog_5_5_2) rfl rfl k) ?_
  obtain ⟨T1, X1, e1, st1⟩ := getF X0 hx hZ hown (host := "") (Or.inl (hw _ (List.mem_of_getElem? (i := 26) rfl))) Via.refl e0 Ft0 (g := (mkF m 3 #[.val (.ref o0), .val (.double (0 : UInt64)), .second, .unset, .unset, .unset, .unset, .unset] [(.ref o0), (.double (0 : UInt64)), (.long (1 : Int64))])) rfl rfl (hb hby own_d_prog_5_5_3)
  refine own_by (V := T1.setTop (mkF m 6 #[.val (.ref o0), .val (.double (0 : UInt64)), .second, .unset, .unset, .unset, .unset, .unset] [(.long (1 : Int64)), (.double (0 : UInt64)), (.long (1 : Int64))])) st1 ?_
  refine own_by (V := T1.setTop (mkF m 7 #[.val (.ref o0), .val (.double (0 : UInt64)), .second, .unset, .unset, .unset, .unset, .unset] [(.double (4607182418800017408 : UInt64)), (.double (0 : UInt64)), (.long (1 : Int64))])) (fun t k => XS.l2dS X1.here hx rfl (hb hby own_d_prog_5_5_6) rfl (v := (4607182418800017408 : UInt64)) (by decide +kernel) k) ?_
  refine own_by (V := T1.setTop (mkF m 8 #[.val (.ref o0), .val (.double (0 : UInt64)), .second, .unset, .unset, .unset, .unset, .unset] [(.double (0 : UInt64)), (.long (1 : Int64))])) (fun t k => XS.dmulS X1.here hx rfl (hb hby own_d_prog_5_5_7) rfl (by unfold Jvm.Free.Fl.NoNaN64; decide +kernel) (v := (0 : UInt64)) (by decide +kernel) k) ?_
  obtain ⟨T2, X2, e2, st2⟩ := own_ceilZ X1 hx (r := 0) e1 hown (mvT hZ (hw _ (List.mem_of_getElem? (i := 33) rfl))) (mvT hZ (hw _ (List.mem_of_getElem? (i := 34) rfl))) (mvT hZ (hw _ (List.mem_of_getElem? (i := 20) rfl))) (mvT hZ (hw _ (List.mem_of_getElem? (i := 35) rfl))) (mvT hZ (hw _ (List.mem_of_getElem? (i := 38) rfl))) (mvT hZ (hw _ (List.mem_of_getElem? (i := 39) rfl))) (own_staS hZ SA) (by decide +kernel) own_d_jdk_128_16_9 (fun Y a1 a2 a3 a4 a5 a6 => own_sc_v0 hw hZ Y hx a1 a2 a3 a4 a5 a6) (g := (mkF m 8 #[.val (.ref o0), .val (.double (0 : UInt64)), .second, .unset, .unset, .unset, .unset, .unset] [(.double (0 : UInt64)), (.long (1 : Int64))])) rfl (by rw [hml]; rfl) (rest := [(.long (1 : Int64))]) rfl (hb hby own_d_prog_5_5_8) (by decide) (by show 2 * 0 + 2 + 130 ≤ _; decide)
  refine own_by (V := T2.setTop (mkF m 11 #[.val (.ref o0), .val (.double (0 : UInt64)), .second, .unset, .unset, .unset, .unset, .unset] [(.double (0 : UInt64)), (.long (1 : Int64))])) st2 ?_
  refine own_by (V := T2.setTop (mkF m 12 #[.val (.ref o0), .val (.double (0 : UInt64)), .second, .unset, .unset, .unset, .unset, .unset] [(.long (0 : Int64)), (.long (1 : Int64))])) (fun t k => XS.d2lS X2.here hx rfl (hb hby own_d_prog_5_5_11) rfl (v := (0 : Int64)) (by decide +kernel) k) ?_
  obtain ⟨_, _, ⟨T3, Lq3, kq3, nq3⟩, -, X3, ⟨Lc3, hQ3, lq3, yq3, zq3⟩, st3⟩ := Jvm.LawKit.callS X2 hx (y := (⟨"java/lang/Math", "max", "(JJ)J"⟩ : MethodName)) hown (mvT hZ (hw _ (List.mem_of_getElem? (i := 18) rfl))) (mvT hZ (hw _ (List.mem_of_getElem? (i := 19) rfl))) (mvT hZ (hw _ (List.mem_of_getElem? (i := 20) rfl))) (mvT hZ (hw _ (List.mem_of_getElem? (i := 21) rfl))) (by decide) (backOf (W := 0) (own_rmax l Z a0 hw [] (1 : Int64) (0 : Int64) h0 n0) hZ (hw _ (List.mem_of_getElem? (i := 21) rfl)) (hw _ (List.mem_of_getElem? (i := 20) rfl)) (by decide) (by decide)) (g := (mkF m 12 #[.val (.ref o0), .val (.double (0 : UInt64)), .second, .unset, .unset, .unset, .unset, .unset] [(.long (0 : Int64)), (.long (1 : Int64))])) rfl (by rw [hml]; rfl) (argsL := [(.long (1 : Int64)), (.long (0 : Int64))]) (rest := []) (lenOf own_pd2 rfl) rfl (by show 2 * 0 + _ ≤ _; exact Nat.le_of_eq rfl) (hb hby own_d_prog_5_5_12) (fun _ _ => ⟨rfl, e2, (by decide : 0 + 0 ≤ _), (by decide : 0 + 0 ≤ _)⟩)
  dsimp only [Pt.U, Pt.locs, Pt.cells, Pt.slots] at X3 lq3 yq3 zq3 st3 hQ3
  subst lq3 yq3 zq3
  obtain ⟨rfl, N3q, e3⟩ := hQ3
  have N3 := Fr.app N0 N3q
  refine own_by (V := T3.setTop (mkF m 15 #[.val (.ref o0), .val (.double (0 : UInt64)), .second, .unset, .unset, .unset, .unset, .unset] [(.long (own_max (1 : Int64) (0 : Int64)))])) st3 ?_
  refine own_by (V := T3.setTop (mkF m 16 #[.val (.ref o0), .val (.double (0 : UInt64)), .second, .val (.long (own_max (1 : Int64) (0 : Int64))), .second, .unset, .unset, .unset] [])) (fun t k => XS.lstoreN X3.here hx rfl (hb hby own_d_prog_5_5_15) rfl (l' := #[.val (.ref o0), .val (.double (0 : UInt64)), .second, .val (.long (own_max (1 : Int64) (0 : Int64))), .second, .unset, .unset, .unset]) rfl k) ?_
  refine own_by (V := T3.setTop (mkF m 17 #[.val (.ref o0), .val (.double (0 : UInt64)), .second, .val (.long (own_max (1 : Int64) (0 : Int64))), .second, .unset, .unset, .unset] [(.long (0 : Int64))])) (fun t k => XS.lconst X3.here hx rfl (hb hby own_d_prog_5_5_16) k) ?_
  refine own_by (V := T3.setTop (mkF m 19 #[.val (.ref o0), .val (.double (0 : UInt64)), .second, .val (.long (own_max (1 : Int64) (0 : Int64))), .second, .val (.long (0 : Int64)), .second, .unset] [])) (fun t k => XS.lstore X3.here hx rfl (hb hby own_d_prog_5_5_17) rfl (l' := #[.val (.ref o0), .val (.double (0 : UInt64)), .second, .val (.long (own_max (1 : Int64) (0 : Int64))), .second, .val (.long (0 : Int64)), .second, .unset]) rfl k) ?_
  refine own_by (V := T3.setTop (mkF m 20 #[.val (.ref o0), .val (.double (0 : UInt64)), .second, .val (.long (own_max (1 : Int64) (0 : Int64))), .second, .val (.long (0 : Int64)), .second, .unset] [(.int (0 : Int32))])) (fun t k => XS.iconst X3.here hx rfl (hb hby own_d_prog_5_5_19) k) ?_
  refine own_by (V := T3.setTop (mkF m 22 #[.val (.ref o0), .val (.double (0 : UInt64)), .second, .val (.long (own_max (1 : Int64) (0 : Int64))), .second, .val (.long (0 : Int64)), .second, .val (.int (0 : Int32))] [])) (fun t k => XS.istore X3.here hx rfl (hb hby own_d_prog_5_5_20) rfl (l' := #[.val (.ref o0), .val (.double (0 : UInt64)), .second, .val (.long (own_max (1 : Int64) (0 : Int64))), .second, .val (.long (0 : Int64)), .second, .val (.int (0 : Int32))]) rfl k) ?_
  have J4 : ∀ (fu : Nat) (T4 : State) (l4 : List Loc) (iv : Int32) (bv : Int64) (ix : Nat) (X4 : Stand p l e ({ frames := 7, cells := 0, slots := 0, locals := 132 } : Room) s m #[(.ref o0), (.double (0 : UInt64))] below meth c T4 l4 0 0) (e4 : T4.heap = h0) (N4 : Fr n0 l4) (hix : iv.toInt = (ix : Int)) (hfu : ix + fu = 7296) (hbv : bv.toInt = own_pre f0 ix) (hlt : own_pre f0 ix < 1), own_Ends p e below s (own_Q_own_rpct_0_1 Z o0 b0 k0 f0 h0 n0) ({ frames := 7, cells := 0, slots := 0, locals := 132 } : Room).cells ({ frames := 7, cells := 0, slots := 0, locals := 132 } : Room).slots (T4.setTop (mkF m 22 #[.val (.ref o0), .val (.double (0 : UInt64)), .second, .val (.long (1 : Int64)), .second, .val (.long bv), .second, .val (.int iv)] [])) := by
    intro fu
    induction fu with
    | zero => intro T4 l4 iv bv ix X4 e4 N4 hix hfu hbv hlt; have q : ix = 7296 := (by omega); rw [q, hsum] at hlt; exact absurd hlt (by decide)
    | succ fu ih =>
      intro T4 l4 iv bv ix X4 e4 N4 hix hfu hbv hlt
      have hbk : own_bk iv := ⟨by omega, by omega⟩
      have htn := own_turn hsm (by decide) hix hbv hlt
      refine own_by (V := T4.setTop (mkF m 23 #[.val (.ref o0), .val (.double (0 : UInt64)), .second, .val (.long (1 : Int64)), .second, .val (.long bv), .second, .val (.int iv)] [(.ref o0)])) (fun t k => XS.aloadN X4.here hx rfl (hb hby own_d_prog_5_5_22) rfl rfl k) ?_
      obtain ⟨T5, X5, e5, st5⟩ := getF X4 hx hZ hown (host := "") (Or.inl (hw _ (List.mem_of_getElem? (i := 26) rfl))) Via.refl e4 Ft0 (g := (mkF m 23 #[.val (.ref o0), .val (.double (0 : UInt64)), .second, .val (.long (1 : Int64)), .second, .val (.long bv), .second, .val (.int iv)] [(.ref o0)])) rfl rfl (hb hby own_d_prog_5_5_23)
      refine own_by (V := T5.setTop (mkF m 26 #[.val (.ref o0), .val (.double (0 : UInt64)), .second, .val (.long (1 : Int64)), .second, .val (.long bv), .second, .val (.int iv)] [(.long (1 : Int64))])) st5 ?_
      refine own_by (V := T5.setTop (mkF m 27 #[.val (.ref o0), .val (.double (0 : UInt64)), .second, .val (.long (1 : Int64)), .second, .val (.long bv), .second, .val (.int iv)] [(.long (0 : Int64)), (.long (1 : Int64))])) (fun t k => XS.lconst X5.here hx rfl (hb hby own_d_prog_5_5_26) k) ?_
      refine own_by (V := T5.setTop (mkF m 28 #[.val (.ref o0), .val (.double (0 : UInt64)), .second, .val (.long (1 : Int64)), .second, .val (.long bv), .second, .val (.int iv)] [(.int (lcmpW (1 : Int64) (0 : Int64)))])) (fun t k => XS.lcmp X5.here hx rfl (hb hby own_d_prog_5_5_27) rfl k) ?_
      have hb28_6 : ((0 : Int32) < (lcmpW (1 : Int64) (0 : Int64))) := by decide
      refine own_by (V := T5.setTop (mkF m 31 #[.val (.ref o0), .val (.double (0 : UInt64)), .second, .val (.long (1 : Int64)), .second, .val (.long bv), .second, .val (.int iv)] [])) (fun t k => XS.ifNo X5.here hx rfl (hb hby own_d_prog_5_5_28) rfl ((if0 _ _).trans (tlt hb28_6).2.2.2) k) ?_
      refine own_by (V := T5.setTop (mkF m 33 #[.val (.ref o0), .val (.double (0 : UInt64)), .second, .val (.long (1 : Int64)), .second, .val (.long bv), .second, .val (.int iv)] [(.long bv)])) (fun t k => XS.lload X5.here hx rfl (hb hby own_d_prog_5_5_31) rfl  k) ?_
      refine own_by (V := T5.setTop (mkF m 34 #[.val (.ref o0), .val (.double (0 : UInt64)), .second, .val (.long (1 : Int64)), .second, .val (.long bv), .second, .val (.int iv)] [(.ref o0), (.long bv)])) (fun t k => XS.aloadN X5.here hx rfl (hb hby own_d_prog_5_5_33) rfl rfl k) ?_
      obtain ⟨T7, X7, e7, st7⟩ := getF X5 hx hZ hown (host := "") (Or.inl (hw _ (List.mem_of_getElem? (i := 11) rfl))) Via.refl e5 Fc0 (g := (mkF m 34 #[.val (.ref o0), .val (.double (0 : UInt64)), .second, .val (.long (1 : Int64)), .second, .val (.long bv), .second, .val (.int iv)] [(.ref o0), (.long bv)])) rfl rfl (hb hby own_d_prog_5_5_34)
      refine own_by (V := T7.setTop (mkF m 37 #[.val (.ref o0), .val (.double (0 : UInt64)), .second, .val (.long (1 : Int64)), .second, .val (.long bv), .second, .val (.int iv)] [(.ref b0), (.long bv)])) st7 ?_
      refine own_by (V := T7.setTop (mkF m 39 #[.val (.ref o0), .val (.double (0 : UInt64)), .second, .val (.long (1 : Int64)), .second, .val (.long bv), .second, .val (.int iv)] [(.int iv), (.ref b0), (.long bv)])) (fun t k => XS.iload X7.here hx rfl (hb hby own_d_prog_5_5_37) rfl  k) ?_
      obtain ⟨cl8, Ar8, qa8, Sa8, Ha8⟩ := id A0
      refine own_by (V := T7.setTop (mkF m 40 #[.val (.ref o0), .val (.double (0 : UInt64)), .second, .val (.long (1 : Int64)), .second, .val (.long bv), .second, .val (.int iv)] [(.long (f0 iv.toNatClampNeg)), (.long bv)])) (X7.laload hx (j := iv) (v := .long (f0 iv.toNatClampNeg)) (by rw [e7]; exact Ar8.1) (State.isArrayOf_alike hZ.alike Ar8.2.1) Ar8.2.2 (own_inb Sa8 hbk) (Ha8 _ (own_nat hbk).1) (g := (mkF m 39 #[.val (.ref o0), .val (.double (0 : UInt64)), .second, .val (.long (1 : Int64)), .second, .val (.long bv), .second, .val (.int iv)] [(.int iv), (.ref b0), (.long bv)])) rfl rfl (hb hby own_d_prog_5_5_39)) ?_
      refine own_by (V := T7.setTop (mkF m 41 #[.val (.ref o0), .val (.double (0 : UInt64)), .second, .val (.long (1 : Int64)), .second, .val (.long bv), .second, .val (.int iv)] [(.long (bv + (f0 iv.toNatClampNeg)))])) (fun t k => XS.ladd X7.here hx rfl (hb hby own_d_prog_5_5_40) rfl k) ?_
      refine own_by (V := T7.setTop (mkF m 42 #[.val (.ref o0), .val (.double (0 : UInt64)), .second, .val (.long (1 : Int64)), .second, .val (.long bv), .second, .val (.int iv)] [(.long (1 : Int64)), (.long (bv + (f0 iv.toNatClampNeg)))])) (fun t k => XS.lloadN X7.here hx rfl (hb hby own_d_prog_5_5_41) rfl  k) ?_
      refine own_by (V := T7.setTop (mkF m 43 #[.val (.ref o0), .val (.double (0 : UInt64)), .second, .val (.long (1 : Int64)), .second, .val (.long bv), .second, .val (.int iv)] [(.int (lcmpW (bv + (f0 iv.toNatClampNeg)) (1 : Int64)))])) (fun t k => XS.lcmp X7.here hx rfl (hb hby own_d_prog_5_5_42) rfl k) ?_
      by_cases hb43_9 : (lcmpW (bv + (f0 iv.toNatClampNeg)) (1 : Int64)) < (0 : Int32)
      · refine own_by (V := T7.setTop (mkF m 46 #[.val (.ref o0), .val (.double (0 : UInt64)), .second, .val (.long (1 : Int64)), .second, .val (.long bv), .second, .val (.int iv)] [])) (fun t k => XS.ifNo X7.here hx rfl (hb hby own_d_prog_5_5_43) rfl ((if0 _ _).trans (tlt hb43_9).2.1) k) ?_
        refine own_by (V := T7.setTop (mkF m 48 #[.val (.ref o0), .val (.double (0 : UInt64)), .second, .val (.long (1 : Int64)), .second, .val (.long bv), .second, .val (.int iv)] [(.long bv)])) (fun t k => XS.lload X7.here hx rfl (hb hby own_d_prog_5_5_46) rfl  k) ?_
        refine own_by (V := T7.setTop (mkF m 49 #[.val (.ref o0), .val (.double (0 : UInt64)), .second, .val (.long (1 : Int64)), .second, .val (.long bv), .second, .val (.int iv)] [(.ref o0), (.long bv)])) (fun t k => XS.aloadN X7.here hx rfl (hb hby own_d_prog_5_5_48) rfl rfl k) ?_
        obtain ⟨T10, X10, e10, st10⟩ := getF X7 hx hZ hown (host := "") (Or.inl (hw _ (List.mem_of_getElem? (i := 11) rfl))) Via.refl e7 Fc0 (g := (mkF m 49 #[.val (.ref o0), .val (.double (0 : UInt64)), .second, .val (.long (1 : Int64)), .second, .val (.long bv), .second, .val (.int iv)] [(.ref o0), (.long bv)])) rfl rfl (hb hby own_d_prog_5_5_49)
        refine own_by (V := T10.setTop (mkF m 52 #[.val (.ref o0), .val (.double (0 : UInt64)), .second, .val (.long (1 : Int64)), .second, .val (.long bv), .second, .val (.int iv)] [(.ref b0), (.long bv)])) st10 ?_
        refine own_by (V := T10.setTop (mkF m 54 #[.val (.ref o0), .val (.double (0 : UInt64)), .second, .val (.long (1 : Int64)), .second, .val (.long bv), .second, .val (.int iv)] [(.int iv), (.ref b0), (.long bv)])) (fun t k => XS.iload X10.here hx rfl (hb hby own_d_prog_5_5_52) rfl  k) ?_
        obtain ⟨cl11, Ar11, qa11, Sa11, Ha11⟩ := id A0
        refine own_by (V := T10.setTop (mkF m 55 #[.val (.ref o0), .val (.double (0 : UInt64)), .second, .val (.long (1 : Int64)), .second, .val (.long bv), .second, .val (.int iv)] [(.long (f0 iv.toNatClampNeg)), (.long bv)])) (X10.laload hx (j := iv) (v := .long (f0 iv.toNatClampNeg)) (by rw [e10]; exact Ar11.1) (State.isArrayOf_alike hZ.alike Ar11.2.1) Ar11.2.2 (own_inb Sa11 hbk) (Ha11 _ (own_nat hbk).1) (g := (mkF m 54 #[.val (.ref o0), .val (.double (0 : UInt64)), .second, .val (.long (1 : Int64)), .second, .val (.long bv), .second, .val (.int iv)] [(.int iv), (.ref b0), (.long bv)])) rfl rfl (hb hby own_d_prog_5_5_54)) ?_
        refine own_by (V := T10.setTop (mkF m 56 #[.val (.ref o0), .val (.double (0 : UInt64)), .second, .val (.long (1 : Int64)), .second, .val (.long bv), .second, .val (.int iv)] [(.long (bv + (f0 iv.toNatClampNeg)))])) (fun t k => XS.ladd X10.here hx rfl (hb hby own_d_prog_5_5_55) rfl k) ?_
        refine own_by (V := T10.setTop (mkF m 58 #[.val (.ref o0), .val (.double (0 : UInt64)), .second, .val (.long (1 : Int64)), .second, .val (.long (bv + (f0 iv.toNatClampNeg))), .second, .val (.int iv)] [])) (fun t k => XS.lstore X10.here hx rfl (hb hby own_d_prog_5_5_56) rfl (l' := #[.val (.ref o0), .val (.double (0 : UInt64)), .second, .val (.long (1 : Int64)), .second, .val (.long (bv + (f0 iv.toNatClampNeg))), .second, .val (.int iv)]) rfl k) ?_
        refine own_by (V := T10.setTop (mkF m 61 #[.val (.ref o0), .val (.double (0 : UInt64)), .second, .val (.long (1 : Int64)), .second, .val (.long (bv + (f0 iv.toNatClampNeg))), .second, .val (.int (iv + (1 : Int32)))] [])) (fun t k => XS.iinc X10.here hx rfl (hb hby own_d_prog_5_5_58) rfl (l' := #[.val (.ref o0), .val (.double (0 : UInt64)), .second, .val (.long (1 : Int64)), .second, .val (.long (bv + (f0 iv.toNatClampNeg))), .second, .val (.int (iv + (1 : Int32)))]) rfl k) ?_
        refine own_by (V := T10.setTop (mkF m 22 #[.val (.ref o0), .val (.double (0 : UInt64)), .second, .val (.long (1 : Int64)), .second, .val (.long (bv + (f0 iv.toNatClampNeg))), .second, .val (.int (iv + (1 : Int32)))] [])) (fun t k => XS.goto X10.here hx rfl (pc0 := 61) (pc' := 22) rfl (hb hby own_d_prog_5_5_61) (by decide) (by decide) k) ?_
        exact ih T10 _ (iv + (1 : Int32)) (bv + (f0 iv.toNatClampNeg)) (ix + 1) (X10.more (by decide) (by decide)) e10 N4 (own_ivinc hix (by omega)) (by omega) htn (by have q := Int64.lt_iff_toInt_lt.mp ((own_lc _ _).1.mp hb43_9); rw [htn] at q; exact q)
      · refine own_by (V := T7.setTop (mkF m 64 #[.val (.ref o0), .val (.double (0 : UInt64)), .second, .val (.long (1 : Int64)), .second, .val (.long bv), .second, .val (.int iv)] [])) (fun t k => XS.ifYes X7.here hx rfl (pc0 := 43) (pc' := 64) rfl (hb hby own_d_prog_5_5_43) rfl ((if0 _ _).trans (flt hb43_9).2.1) (by decide) (by decide) k) ?_
        have hat : own_at f0 1 iv := ⟨hbk, by rw [own_natx hix]; exact hlt, by rw [own_natx hix, ← htn]; exact Int.not_lt.mp fun u => hb43_9 ((own_lc _ _).1.mpr (Int64.lt_iff_toInt_lt.mpr u))⟩
        refine own_by (V := T7.setTop (mkF m 65 #[.val (.ref o0), .val (.double (0 : UInt64)), .second, .val (.long (1 : Int64)), .second, .val (.long bv), .second, .val (.int iv)] [(.ref o0)])) (fun t k => XS.aloadN X7.here hx rfl (hb hby own_d_prog_5_5_64) rfl rfl k) ?_
        obtain ⟨T12, X12, e12, st12⟩ := getF X7 hx hZ hown (host := "") (Or.inl (hw _ (List.mem_of_getElem? (i := 26) rfl))) Via.refl e7 Ft0 (g := (mkF m 65 #[.val (.ref o0), .val (.double (0 : UInt64)), .second, .val (.long (1 : Int64)), .second, .val (.long bv), .second, .val (.int iv)] [(.ref o0)])) rfl rfl (hb hby own_d_prog_5_5_65)
        refine own_by (V := T12.setTop (mkF m 68 #[.val (.ref o0), .val (.double (0 : UInt64)), .second, .val (.long (1 : Int64)), .second, .val (.long bv), .second, .val (.int iv)] [(.long (1 : Int64))])) st12 ?_
        refine own_by (V := T12.setTop (mkF m 69 #[.val (.ref o0), .val (.double (0 : UInt64)), .second, .val (.long (1 : Int64)), .second, .val (.long bv), .second, .val (.int iv)] [(.long (0 : Int64)), (.long (1 : Int64))])) (fun t k => XS.lconst X12.here hx rfl (hb hby own_d_prog_5_5_68) k) ?_
        refine own_by (V := T12.setTop (mkF m 70 #[.val (.ref o0), .val (.double (0 : UInt64)), .second, .val (.long (1 : Int64)), .second, .val (.long bv), .second, .val (.int iv)] [(.int (lcmpW (1 : Int64) (0 : Int64)))])) (fun t k => XS.lcmp X12.here hx rfl (hb hby own_d_prog_5_5_69) rfl k) ?_
        have hb70_13 : ((0 : Int32) < (lcmpW (1 : Int64) (0 : Int64))) := by decide
        refine own_by (V := T12.setTop (mkF m 73 #[.val (.ref o0), .val (.double (0 : UInt64)), .second, .val (.long (1 : Int64)), .second, .val (.long bv), .second, .val (.int iv)] [])) (fun t k => XS.ifNo X12.here hx rfl (hb hby own_d_prog_5_5_70) rfl ((if0 _ _).trans (tlt hb70_13).2.2.2) k) ?_
        refine own_by (V := T12.setTop (mkF m 75 #[.val (.ref o0), .val (.double (0 : UInt64)), .second, .val (.long (1 : Int64)), .second, .val (.long bv), .second, .val (.int iv)] [(.int iv)])) (fun t k => XS.iload X12.here hx rfl (hb hby own_d_prog_5_5_73) rfl  k) ?_
        obtain ⟨_, _, ⟨T14, Lq14, kq14, nq14⟩, -, X14, ⟨Lc14, hQ14, lq14, yq14, zq14⟩, st14⟩ := Jvm.LawKit.callS X12 hx (y := (⟨"com/example/nocord/nocord/bench/Latencies", "middle", "(I)J"⟩ : MethodName)) hown (mvT hZ (hw _ (List.mem_of_getElem? (i := 53) rfl))) (mvT hZ (hw _ (List.mem_of_getElem? (i := 54) rfl))) (mvT hZ (hw _ (List.mem_of_getElem? (i := 3) rfl))) (mvT hZ (hw _ (List.mem_of_getElem? (i := 55) rfl))) (by decide) (backOf (W := 0) (own_rmid l Z a0 hw [] iv h0 n0) hZ (hw _ (List.mem_of_getElem? (i := 55) rfl)) (hw _ (List.mem_of_getElem? (i := 3) rfl)) (by decide) (by decide)) (g := (mkF m 75 #[.val (.ref o0), .val (.double (0 : UInt64)), .second, .val (.long (1 : Int64)), .second, .val (.long bv), .second, .val (.int iv)] [(.int iv)])) rfl (by rw [hml]; rfl) (argsL := [(.int iv)]) (rest := []) (lenOf own_pd5 rfl) rfl (by show 2 * 0 + _ ≤ _; exact Nat.le_of_eq rfl) (hb hby own_d_prog_5_5_75) (fun _ _ => ⟨rfl, e12, (by decide : 0 + 0 ≤ _), (by decide : 0 + 0 ≤ _)⟩)
        dsimp only [Pt.U, Pt.locs, Pt.cells, Pt.slots] at X14 lq14 yq14 zq14 st14 hQ14
        subst lq14 yq14 zq14
        obtain ⟨rfl, N14q, e14⟩ := hQ14
        have N14 := Fr.app N4 N14q
        refine own_by (V := T14.setTop (mkF m 78 #[.val (.ref o0), .val (.double (0 : UInt64)), .second, .val (.long (1 : Int64)), .second, .val (.long bv), .second, .val (.int iv)] [(.long (own_mid iv))])) st14 ?_
        refine own_by (V := T14.setTop (mkF m 82 #[.val (.ref o0), .val (.double (0 : UInt64)), .second, .val (.long (1 : Int64)), .second, .val (.long bv), .second, .val (.int iv)] [(.long (own_mid iv))])) (fun t k => XS.goto X14.here hx rfl (pc0 := 78) (pc' := 82) rfl (hb hby own_d_prog_5_5_78) (by decide) (by decide) k) ?_
        refine own_retL X14 hx hlk e14 Bd.returns (hb hby own_d_prog_5_5_82) ?_ (by decide) (by decide)
        exact ⟨iv, rfl, N14, rfl, hat⟩
  rw [show (own_max (1 : Int64) (0 : Int64)) = (1 : Int64) from by decide +kernel]
  exact J4 7296 T3 _ (0 : Int32) (0 : Int64) 0 (X3.more (by decide) (by decide)) e3 N3 rfl rfl rfl (by show (0 : Int) < 1; decide)
def own_Q_own_rpct_0_2 (Z : State) (o0 : Addr) (b0 : Addr) (k0 : ClassId) (f0 : Nat → Int64) (h0 : Heap) (n0 : Nat) : Option Value → Heap → List Loc → Prop := fun v h L => ∃ (ix : Int32), v = some (.long (own_mid ix)) ∧ Fr n0 L ∧ h = h0 ∧ own_at f0 1 ix
theorem own_ef_own_rpct_0_2 (m : MethodId) (x0 : Addr) : entryFrame m #[(.ref x0), (.double (0 : UInt64))] 8 = mkF m 0 #[.val (.ref x0), .val (.double (0 : UInt64)), .second, .unset, .unset, .unset, .unset, .unset] [] := by first | (simp [entryFrame, mkF, argsToLocals, Value.category]; done) | rfl
set_option maxRecDepth 65536 in
set_option maxHeartbeats 40000000 in
theorem own_rpct_0_2 (l : Launch) (Z : State) (a0 : Array Value) (hw : ∀ d ∈ tables_1, d.before a0 Z = true) (ws : List Jvm.Cond) (o0 : Addr) (b0 : Addr) (k0 : ClassId) (f0 : Nat → Int64) (h0 : Heap) (n0 : Nat) (Z0 : n0 ≤ h0.size) (Fc0 : Fld Z h0 o0 "com/example/nocord/nocord/bench/Latencies" "counts" "[J" (.ref b0)) (Ft0 : Fld Z h0 o0 "com/example/nocord/nocord/bench/Latencies" "total" "J" (.long (2 : Int64))) (A0 : own_Arf Z h0 b0 k0 f0) (hsm : own_small f0) (hsum : own_pre f0 7296 = 2) (SA : Sta Z h0 "java/lang/StrictMath" "$assertionsDisabled" "Z" (.int (1 : Int32))) :
    MetFree l (⟨"com/example/nocord/nocord/bench/Latencies", "percentile", "(D)J"⟩ : MethodName) (head1 (Jvm.Cond.code (⟨"com/example/nocord/nocord/bench/Latencies", "percentile", "(D)J"⟩ : MethodName) prog_5_method_5_code 8 (some .long) :: ws) ({ frames := 7, cells := 0, slots := 0, locals := 132 } : Room)) (fun a U => a = #[(.ref o0), (.double (0 : UInt64))] ∧ Z.Warmed39 U.vm ∧ U.heap = h0) (fun _ _ _ _ _ => True) (fun _ U o U' => ∃ v L, o = .returned v ∧ (own_Q_own_rpct_0_2 Z o0 b0 k0 f0 h0 n0) v U'.heap L ∧ FrameEnd U o U' L ({ frames := 7, cells := 0, slots := 0, locals := 132 } : Room).cells ({ frames := 7, cells := 0, slots := 0, locals := 132 } : Room).slots) := by
  refine MetFree.of_bodySF (plainFor_of_name own_pn2) hisR ?_
  intro p e s m args below meth c s₁ Bd hml0 hP hK
  obtain ⟨rfl, hZ, hh⟩ := hP
  have hx := Bd.exec
  have hby := Bd.bytes
  have hml : c.maxLocals = 8 := hml0
  have hown : s.vm.findClass "com/example/nocord/nocord/bench/Latencies" = some m.cls := findClass_of_methodNamed Bd.named
  have hnm := (name_of_methodNamed Bd.named Bd.method).1
  have hlk : meth.locks = false := BodyLoose.notSynchronized Bd
  have X0 : Stand p l e ({ frames := 7, cells := 0, slots := 0, locals := 132 } : Room) s m #[(.ref o0), (.double (0 : UInt64))] below meth c s₁ [] 0 0 := Stand.of_body Bd
  have e0 : s₁.heap = h0 := by rw [← hh, Bd.state]; rfl
  have N0 := Fr.nil n0
  show own_Ends p e below s (own_Q_own_rpct_0_2 Z o0 b0 k0 f0 h0 n0) ({ frames := 7, cells := 0, slots := 0, locals := 132 } : Room).cells ({ frames := 7, cells := 0, slots := 0, locals := 132 } : Room).slots _
  refine own_by (V := s₁.setTop (mkF m 0 #[.val (.ref o0), .val (.double (0 : UInt64)), .second, .unset, .unset, .unset, .unset, .unset] [])) (fun t k => castTop (own_ef_own_rpct_0_2 m o0) k) ?_
  refine own_by (V := s₁.setTop (mkF m 1 #[.val (.ref o0), .val (.double (0 : UInt64)), .second, .unset, .unset, .unset, .unset, .unset] [(.long (1 : Int64))])) (fun t k => XS.lconst X0.here hx rfl (hb hby own_d_prog_5_5_0) k) ?_
  refine own_by (V := s₁.setTop (mkF m 2 #[.val (.ref o0), .val (.double (0 : UInt64)), .second, .unset, .unset, .unset, .unset, .unset] [(.double (0 : UInt64)), (.long (1 : Int64))])) (fun t k => XS.dloadN X0.here hx rfl (hb hby own_d_prog_5_5_1) rfl  k) ?_
  refine own_by (V := s₁.setTop (mkF m 3 #[.val (.ref o0), .val (.double (0 : UInt64)), .second, .unset, .unset, .unset, .unset, .unset] [(.ref o0), (.double (0 : UInt64)), (.long (1 : Int64))])) (fun t k => XS.aloadN X0.here hx rfl (hb hby own_d_prog_5_5_2) rfl rfl k) ?_
  obtain ⟨T1, X1, e1, st1⟩ := getF X0 hx hZ hown (host := "") (Or.inl (hw _ (List.mem_of_getElem? (i := 26) rfl))) Via.refl e0 Ft0 (g := (mkF m 3 #[.val (.ref o0), .val (.double (0 : UInt64)), .second, .unset, .unset, .unset, .unset, .unset] [(.ref o0), (.double (0 : UInt64)), (.long (1 : Int64))])) rfl rfl (hb hby own_d_prog_5_5_3)
  refine own_by (V := T1.setTop (mkF m 6 #[.val (.ref o0), .val (.double (0 : UInt64)), .second, .unset, .unset, .unset, .unset, .unset] [(.long (2 : Int64)), (.double (0 : UInt64)), (.long (1 : Int64))])) st1 ?_
  refine own_by (V := T1.setTop (mkF m 7 #[.val (.ref o0), .val (.double (0 : UInt64)), .second, .unset, .unset, .unset, .unset, .unset] [(.double (4611686018427387904 : UInt64)), (.double (0 : UInt64)), (.long (1 : Int64))])) (fun t k => XS.l2dS X1.here hx rfl (hb hby own_d_prog_5_5_6) rfl (v := (4611686018427387904 : UInt64)) (by decide +kernel) k) ?_
  refine own_by (V := T1.setTop (mkF m 8 #[.val (.ref o0), .val (.double (0 : UInt64)), .second, .unset, .unset, .unset, .unset, .unset] [(.double (0 : UInt64)), (.long (1 : Int64))])) (fun t k => XS.dmulS X1.here hx rfl (hb hby own_d_prog_5_5_7) rfl (by unfold Jvm.Free.Fl.NoNaN64; decide +kernel) (v := (0 : UInt64)) (by decide +kernel) k) ?_
  obtain ⟨T2, X2, e2, st2⟩ := own_ceilZ X1 hx (r := 0) e1 hown (mvT hZ (hw _ (List.mem_of_getElem? (i := 33) rfl))) (mvT hZ (hw _ (List.mem_of_getElem? (i := 34) rfl))) (mvT hZ (hw _ (List.mem_of_getElem? (i := 20) rfl))) (mvT hZ (hw _ (List.mem_of_getElem? (i := 35) rfl))) (mvT hZ (hw _ (List.mem_of_getElem? (i := 38) rfl))) (mvT hZ (hw _ (List.mem_of_getElem? (i := 39) rfl))) (own_staS hZ SA) (by decide +kernel) own_d_jdk_128_16_9 (fun Y a1 a2 a3 a4 a5 a6 => own_sc_v0 hw hZ Y hx a1 a2 a3 a4 a5 a6) (g := (mkF m 8 #[.val (.ref o0), .val (.double (0 : UInt64)), .second, .unset, .unset, .unset, .unset, .unset] [(.double (0 : UInt64)), (.long (1 : Int64))])) rfl (by rw [hml]; rfl) (rest := [(.long (1 : Int64))]) rfl (hb hby own_d_prog_5_5_8) (by decide) (by show 2 * 0 + 2 + 130 ≤ _; decide)
  refine own_by (V := T2.setTop (mkF m 11 #[.val (.ref o0), .val (.double (0 : UInt64)), .second, .unset, .unset, .unset, .unset, .unset] [(.double (0 : UInt64)), (.long (1 : Int64))])) st2 ?_
  refine own_by (V := T2.setTop (mkF m 12 #[.val (.ref o0), .val (.double (0 : UInt64)), .second, .unset, .unset, .unset, .unset, .unset] [(.long (0 : Int64)), (.long (1 : Int64))])) (fun t k => XS.d2lS X2.here hx rfl (hb hby own_d_prog_5_5_11) rfl (v := (0 : Int64)) (by decide +kernel) k) ?_
  obtain ⟨_, _, ⟨T3, Lq3, kq3, nq3⟩, -, X3, ⟨Lc3, hQ3, lq3, yq3, zq3⟩, st3⟩ := Jvm.LawKit.callS X2 hx (y := (⟨"java/lang/Math", "max", "(JJ)J"⟩ : MethodName)) hown (mvT hZ (hw _ (List.mem_of_getElem? (i := 18) rfl))) (mvT hZ (hw _ (List.mem_of_getElem? (i := 19) rfl))) (mvT hZ (hw _ (List.mem_of_getElem? (i := 20) rfl))) (mvT hZ (hw _ (List.mem_of_getElem? (i := 21) rfl))) (by decide) (backOf (W := 0) (own_rmax l Z a0 hw [] (1 : Int64) (0 : Int64) h0 n0) hZ (hw _ (List.mem_of_getElem? (i := 21) rfl)) (hw _ (List.mem_of_getElem? (i := 20) rfl)) (by decide) (by decide)) (g := (mkF m 12 #[.val (.ref o0), .val (.double (0 : UInt64)), .second, .unset, .unset, .unset, .unset, .unset] [(.long (0 : Int64)), (.long (1 : Int64))])) rfl (by rw [hml]; rfl) (argsL := [(.long (1 : Int64)), (.long (0 : Int64))]) (rest := []) (lenOf own_pd2 rfl) rfl (by show 2 * 0 + _ ≤ _; exact Nat.le_of_eq rfl) (hb hby own_d_prog_5_5_12) (fun _ _ => ⟨rfl, e2, (by decide : 0 + 0 ≤ _), (by decide : 0 + 0 ≤ _)⟩)
  dsimp only [Pt.U, Pt.locs, Pt.cells, Pt.slots] at X3 lq3 yq3 zq3 st3 hQ3
  subst lq3 yq3 zq3
  obtain ⟨rfl, N3q, e3⟩ := hQ3
  have N3 := Fr.app N0 N3q
  refine own_by (V := T3.setTop (mkF m 15 #[.val (.ref o0), .val (.double (0 : UInt64)), .second, .unset, .unset, .unset, .unset, .unset] [(.long (own_max (1 : Int64) (0 : Int64)))])) st3 ?_
  refine own_by (V := T3.setTop (mkF m 16 #[.val (.ref o0), .val (.double (0 : UInt64)), .second, .val (.long (own_max (1 : Int64) (0 : Int64))), .second, .unset, .unset, .unset] [])) (fun t k => XS.lstoreN X3.here hx rfl (hb hby own_d_prog_5_5_15) rfl (l' := #[.val (.ref o0), .val (.double (0 : UInt64)), .second, .val (.long (own_max (1 : Int64) (0 : Int64))), .second, .unset, .unset, .unset]) rfl k) ?_
  refine own_by (V := T3.setTop (mkF m 17 #[.val (.ref o0), .val (.double (0 : UInt64)), .second, .val (.long (own_max (1 : Int64) (0 : Int64))), .second, .unset, .unset, .unset] [(.long (0 : Int64))])) (fun t k => XS.lconst X3.here hx rfl (hb hby own_d_prog_5_5_16) k) ?_
  refine own_by (V := T3.setTop (mkF m 19 #[.val (.ref o0), .val (.double (0 : UInt64)), .second, .val (.long (own_max (1 : Int64) (0 : Int64))), .second, .val (.long (0 : Int64)), .second, .unset] [])) (fun t k => XS.lstore X3.here hx rfl (hb hby own_d_prog_5_5_17) rfl (l' := #[.val (.ref o0), .val (.double (0 : UInt64)), .second, .val (.long (own_max (1 : Int64) (0 : Int64))), .second, .val (.long (0 : Int64)), .second, .unset]) rfl k) ?_
  refine own_by (V := T3.setTop (mkF m 20 #[.val (.ref o0), .val (.double (0 : UInt64)), .second, .val (.long (own_max (1 : Int64) (0 : Int64))), .second, .val (.long (0 : Int64)), .second, .unset] [(.int (0 : Int32))])) (fun t k => XS.iconst X3.here hx rfl (hb hby own_d_prog_5_5_19) k) ?_
  refine own_by (V := T3.setTop (mkF m 22 #[.val (.ref o0), .val (.double (0 : UInt64)), .second, .val (.long (own_max (1 : Int64) (0 : Int64))), .second, .val (.long (0 : Int64)), .second, .val (.int (0 : Int32))] [])) (fun t k => XS.istore X3.here hx rfl (hb hby own_d_prog_5_5_20) rfl (l' := #[.val (.ref o0), .val (.double (0 : UInt64)), .second, .val (.long (own_max (1 : Int64) (0 : Int64))), .second, .val (.long (0 : Int64)), .second, .val (.int (0 : Int32))]) rfl k) ?_
  have J4 : ∀ (fu : Nat) (T4 : State) (l4 : List Loc) (iv : Int32) (bv : Int64) (ix : Nat) (X4 : Stand p l e ({ frames := 7, cells := 0, slots := 0, locals := 132 } : Room) s m #[(.ref o0), (.double (0 : UInt64))] below meth c T4 l4 0 0) (e4 : T4.heap = h0) (N4 : Fr n0 l4) (hix : iv.toInt = (ix : Int)) (hfu : ix + fu = 7296) (hbv : bv.toInt = own_pre f0 ix) (hlt : own_pre f0 ix < 1), own_Ends p e below s (own_Q_own_rpct_0_2 Z o0 b0 k0 f0 h0 n0) ({ frames := 7, cells := 0, slots := 0, locals := 132 } : Room).cells ({ frames := 7, cells := 0, slots := 0, locals := 132 } : Room).slots (T4.setTop (mkF m 22 #[.val (.ref o0), .val (.double (0 : UInt64)), .second, .val (.long (1 : Int64)), .second, .val (.long bv), .second, .val (.int iv)] [])) := by
    intro fu
    induction fu with
    | zero => intro T4 l4 iv bv ix X4 e4 N4 hix hfu hbv hlt; have q : ix = 7296 := (by omega); rw [q, hsum] at hlt; exact absurd hlt (by decide)
    | succ fu ih =>
      intro T4 l4 iv bv ix X4 e4 N4 hix hfu hbv hlt
      have hbk : own_bk iv := ⟨by omega, by omega⟩
      have htn := own_turn hsm (by decide) hix hbv hlt
      refine own_by (V := T4.setTop (mkF m 23 #[.val (.ref o0), .val (.double (0 : UInt64)), .second, .val (.long (1 : Int64)), .second, .val (.long bv), .second, .val (.int iv)] [(.ref o0)])) (fun t k => XS.aloadN X4.here hx rfl (hb hby own_d_prog_5_5_22) rfl rfl k) ?_
      obtain ⟨T5, X5, e5, st5⟩ := getF X4 hx hZ hown (host := "") (Or.inl (hw _ (List.mem_of_getElem? (i := 26) rfl))) Via.refl e4 Ft0 (g := (mkF m 23 #[.val (.ref o0), .val (.double (0 : UInt64)), .second, .val (.long (1 : Int64)), .second, .val (.long bv), .second, .val (.int iv)] [(.ref o0)])) rfl rfl (hb hby own_d_prog_5_5_23)
      refine own_by (V := T5.setTop (mkF m 26 #[.val (.ref o0), .val (.double (0 : UInt64)), .second, .val (.long (1 : Int64)), .second, .val (.long bv), .second, .val (.int iv)] [(.long (2 : Int64))])) st5 ?_
      refine own_by (V := T5.setTop (mkF m 27 #[.val (.ref o0), .val (.double (0 : UInt64)), .second, .val (.long (1 : Int64)), .second, .val (.long bv), .second, .val (.int iv)] [(.long (0 : Int64)), (.long (2 : Int64))])) (fun t k => XS.lconst X5.here hx rfl (hb hby own_d_prog_5_5_26) k) ?_
      refine own_by (V := T5.setTop (mkF m 28 #[.val (.ref o0), .val (.double (0 : UInt64)), .second, .val (.long (1 : Int64)), .second, .val (.long bv), .second, .val (.int iv)] [(.int (lcmpW (2 : Int64) (0 : Int64)))])) (fun t k => XS.lcmp X5.here hx rfl (hb hby own_d_prog_5_5_27) rfl k) ?_
      have hb28_6 : ((0 : Int32) < (lcmpW (2 : Int64) (0 : Int64))) := by decide
      refine own_by (V := T5.setTop (mkF m 31 #[.val (.ref o0), .val (.double (0 : UInt64)), .second, .val (.long (1 : Int64)), .second, .val (.long bv), .second, .val (.int iv)] [])) (fun t k => XS.ifNo X5.here hx rfl (hb hby own_d_prog_5_5_28) rfl ((if0 _ _).trans (tlt hb28_6).2.2.2) k) ?_
      refine own_by (V := T5.setTop (mkF m 33 #[.val (.ref o0), .val (.double (0 : UInt64)), .second, .val (.long (1 : Int64)), .second, .val (.long bv), .second, .val (.int iv)] [(.long bv)])) (fun t k => XS.lload X5.here hx rfl (hb hby own_d_prog_5_5_31) rfl  k) ?_
      refine own_by (V := T5.setTop (mkF m 34 #[.val (.ref o0), .val (.double (0 : UInt64)), .second, .val (.long (1 : Int64)), .second, .val (.long bv), .second, .val (.int iv)] [(.ref o0), (.long bv)])) (fun t k => XS.aloadN X5.here hx rfl (hb hby own_d_prog_5_5_33) rfl rfl k) ?_
      obtain ⟨T7, X7, e7, st7⟩ := getF X5 hx hZ hown (host := "") (Or.inl (hw _ (List.mem_of_getElem? (i := 11) rfl))) Via.refl e5 Fc0 (g := (mkF m 34 #[.val (.ref o0), .val (.double (0 : UInt64)), .second, .val (.long (1 : Int64)), .second, .val (.long bv), .second, .val (.int iv)] [(.ref o0), (.long bv)])) rfl rfl (hb hby own_d_prog_5_5_34)
      refine own_by (V := T7.setTop (mkF m 37 #[.val (.ref o0), .val (.double (0 : UInt64)), .second, .val (.long (1 : Int64)), .second, .val (.long bv), .second, .val (.int iv)] [(.ref b0), (.long bv)])) st7 ?_
      refine own_by (V := T7.setTop (mkF m 39 #[.val (.ref o0), .val (.double (0 : UInt64)), .second, .val (.long (1 : Int64)), .second, .val (.long bv), .second, .val (.int iv)] [(.int iv), (.ref b0), (.long bv)])) (fun t k => XS.iload X7.here hx rfl (hb hby own_d_prog_5_5_37) rfl  k) ?_
      obtain ⟨cl8, Ar8, qa8, Sa8, Ha8⟩ := id A0
      refine own_by (V := T7.setTop (mkF m 40 #[.val (.ref o0), .val (.double (0 : UInt64)), .second, .val (.long (1 : Int64)), .second, .val (.long bv), .second, .val (.int iv)] [(.long (f0 iv.toNatClampNeg)), (.long bv)])) (X7.laload hx (j := iv) (v := .long (f0 iv.toNatClampNeg)) (by rw [e7]; exact Ar8.1) (State.isArrayOf_alike hZ.alike Ar8.2.1) Ar8.2.2 (own_inb Sa8 hbk) (Ha8 _ (own_nat hbk).1) (g := (mkF m 39 #[.val (.ref o0), .val (.double (0 : UInt64)), .second, .val (.long (1 : Int64)), .second, .val (.long bv), .second, .val (.int iv)] [(.int iv), (.ref b0), (.long bv)])) rfl rfl (hb hby own_d_prog_5_5_39)) ?_
      refine own_by (V := T7.setTop (mkF m 41 #[.val (.ref o0), .val (.double (0 : UInt64)), .second, .val (.long (1 : Int64)), .second, .val (.long bv), .second, .val (.int iv)] [(.long (bv + (f0 iv.toNatClampNeg)))])) (fun t k => XS.ladd X7.here hx rfl (hb hby own_d_prog_5_5_40) rfl k) ?_
      refine own_by (V := T7.setTop (mkF m 42 #[.val (.ref o0), .val (.double (0 : UInt64)), .second, .val (.long (1 : Int64)), .second, .val (.long bv), .second, .val (.int iv)] [(.long (1 : Int64)), (.long (bv + (f0 iv.toNatClampNeg)))])) (fun t k => XS.lloadN X7.here hx rfl (hb hby own_d_prog_5_5_41) rfl  k) ?_
      refine own_by (V := T7.setTop (mkF m 43 #[.val (.ref o0), .val (.double (0 : UInt64)), .second, .val (.long (1 : Int64)), .second, .val (.long bv), .second, .val (.int iv)] [(.int (lcmpW (bv + (f0 iv.toNatClampNeg)) (1 : Int64)))])) (fun t k => XS.lcmp X7.here hx rfl (hb hby own_d_prog_5_5_42) rfl k) ?_
      by_cases hb43_9 : (lcmpW (bv + (f0 iv.toNatClampNeg)) (1 : Int64)) < (0 : Int32)
      · refine own_by (V := T7.setTop (mkF m 46 #[.val (.ref o0), .val (.double (0 : UInt64)), .second, .val (.long (1 : Int64)), .second, .val (.long bv), .second, .val (.int iv)] [])) (fun t k => XS.ifNo X7.here hx rfl (hb hby own_d_prog_5_5_43) rfl ((if0 _ _).trans (tlt hb43_9).2.1) k) ?_
        refine own_by (V := T7.setTop (mkF m 48 #[.val (.ref o0), .val (.double (0 : UInt64)), .second, .val (.long (1 : Int64)), .second, .val (.long bv), .second, .val (.int iv)] [(.long bv)])) (fun t k => XS.lload X7.here hx rfl (hb hby own_d_prog_5_5_46) rfl  k) ?_
        refine own_by (V := T7.setTop (mkF m 49 #[.val (.ref o0), .val (.double (0 : UInt64)), .second, .val (.long (1 : Int64)), .second, .val (.long bv), .second, .val (.int iv)] [(.ref o0), (.long bv)])) (fun t k => XS.aloadN X7.here hx rfl (hb hby own_d_prog_5_5_48) rfl rfl k) ?_
        obtain ⟨T10, X10, e10, st10⟩ := getF X7 hx hZ hown (host := "") (Or.inl (hw _ (List.mem_of_getElem? (i := 11) rfl))) Via.refl e7 Fc0 (g := (mkF m 49 #[.val (.ref o0), .val (.double (0 : UInt64)), .second, .val (.long (1 : Int64)), .second, .val (.long bv), .second, .val (.int iv)] [(.ref o0), (.long bv)])) rfl rfl (hb hby own_d_prog_5_5_49)
        refine own_by (V := T10.setTop (mkF m 52 #[.val (.ref o0), .val (.double (0 : UInt64)), .second, .val (.long (1 : Int64)), .second, .val (.long bv), .second, .val (.int iv)] [(.ref b0), (.long bv)])) st10 ?_
        refine own_by (V := T10.setTop (mkF m 54 #[.val (.ref o0), .val (.double (0 : UInt64)), .second, .val (.long (1 : Int64)), .second, .val (.long bv), .second, .val (.int iv)] [(.int iv), (.ref b0), (.long bv)])) (fun t k => XS.iload X10.here hx rfl (hb hby own_d_prog_5_5_52) rfl  k) ?_
        obtain ⟨cl11, Ar11, qa11, Sa11, Ha11⟩ := id A0
        refine own_by (V := T10.setTop (mkF m 55 #[.val (.ref o0), .val (.double (0 : UInt64)), .second, .val (.long (1 : Int64)), .second, .val (.long bv), .second, .val (.int iv)] [(.long (f0 iv.toNatClampNeg)), (.long bv)])) (X10.laload hx (j := iv) (v := .long (f0 iv.toNatClampNeg)) (by rw [e10]; exact Ar11.1) (State.isArrayOf_alike hZ.alike Ar11.2.1) Ar11.2.2 (own_inb Sa11 hbk) (Ha11 _ (own_nat hbk).1) (g := (mkF m 54 #[.val (.ref o0), .val (.double (0 : UInt64)), .second, .val (.long (1 : Int64)), .second, .val (.long bv), .second, .val (.int iv)] [(.int iv), (.ref b0), (.long bv)])) rfl rfl (hb hby own_d_prog_5_5_54)) ?_
        refine own_by (V := T10.setTop (mkF m 56 #[.val (.ref o0), .val (.double (0 : UInt64)), .second, .val (.long (1 : Int64)), .second, .val (.long bv), .second, .val (.int iv)] [(.long (bv + (f0 iv.toNatClampNeg)))])) (fun t k => XS.ladd X10.here hx rfl (hb hby own_d_prog_5_5_55) rfl k) ?_
        refine own_by (V := T10.setTop (mkF m 58 #[.val (.ref o0), .val (.double (0 : UInt64)), .second, .val (.long (1 : Int64)), .second, .val (.long (bv + (f0 iv.toNatClampNeg))), .second, .val (.int iv)] [])) (fun t k => XS.lstore X10.here hx rfl (hb hby own_d_prog_5_5_56) rfl (l' := #[.val (.ref o0), .val (.double (0 : UInt64)), .second, .val (.long (1 : Int64)), .second, .val (.long (bv + (f0 iv.toNatClampNeg))), .second, .val (.int iv)]) rfl k) ?_
        refine own_by (V := T10.setTop (mkF m 61 #[.val (.ref o0), .val (.double (0 : UInt64)), .second, .val (.long (1 : Int64)), .second, .val (.long (bv + (f0 iv.toNatClampNeg))), .second, .val (.int (iv + (1 : Int32)))] [])) (fun t k => XS.iinc X10.here hx rfl (hb hby own_d_prog_5_5_58) rfl (l' := #[.val (.ref o0), .val (.double (0 : UInt64)), .second, .val (.long (1 : Int64)), .second, .val (.long (bv + (f0 iv.toNatClampNeg))), .second, .val (.int (iv + (1 : Int32)))]) rfl k) ?_
        refine own_by (V := T10.setTop (mkF m 22 #[.val (.ref o0), .val (.double (0 : UInt64)), .second, .val (.long (1 : Int64)), .second, .val (.long (bv + (f0 iv.toNatClampNeg))), .second, .val (.int (iv + (1 : Int32)))] [])) (fun t k => XS.goto X10.here hx rfl (pc0 := 61) (pc' := 22) rfl (hb hby own_d_prog_5_5_61) (by decide) (by decide) k) ?_
        exact ih T10 _ (iv + (1 : Int32)) (bv + (f0 iv.toNatClampNeg)) (ix + 1) (X10.more (by decide) (by decide)) e10 N4 (own_ivinc hix (by omega)) (by omega) htn (by have q := Int64.lt_iff_toInt_lt.mp ((own_lc _ _).1.mp hb43_9); rw [htn] at q; exact q)
      · refine own_by (V := T7.setTop (mkF m 64 #[.val (.ref o0), .val (.double (0 : UInt64)), .second, .val (.long (1 : Int64)), .second, .val (.long bv), .second, .val (.int iv)] [])) (fun t k => XS.ifYes X7.here hx rfl (pc0 := 43) (pc' := 64) rfl (hb hby own_d_prog_5_5_43) rfl ((if0 _ _).trans (flt hb43_9).2.1) (by decide) (by decide) k) ?_
        have hat : own_at f0 1 iv := ⟨hbk, by rw [own_natx hix]; exact hlt, by rw [own_natx hix, ← htn]; exact Int.not_lt.mp fun u => hb43_9 ((own_lc _ _).1.mpr (Int64.lt_iff_toInt_lt.mpr u))⟩
        refine own_by (V := T7.setTop (mkF m 65 #[.val (.ref o0), .val (.double (0 : UInt64)), .second, .val (.long (1 : Int64)), .second, .val (.long bv), .second, .val (.int iv)] [(.ref o0)])) (fun t k => XS.aloadN X7.here hx rfl (hb hby own_d_prog_5_5_64) rfl rfl k) ?_
        obtain ⟨T12, X12, e12, st12⟩ := getF X7 hx hZ hown (host := "") (Or.inl (hw _ (List.mem_of_getElem? (i := 26) rfl))) Via.refl e7 Ft0 (g := (mkF m 65 #[.val (.ref o0), .val (.double (0 : UInt64)), .second, .val (.long (1 : Int64)), .second, .val (.long bv), .second, .val (.int iv)] [(.ref o0)])) rfl rfl (hb hby own_d_prog_5_5_65)
        refine own_by (V := T12.setTop (mkF m 68 #[.val (.ref o0), .val (.double (0 : UInt64)), .second, .val (.long (1 : Int64)), .second, .val (.long bv), .second, .val (.int iv)] [(.long (2 : Int64))])) st12 ?_
        refine own_by (V := T12.setTop (mkF m 69 #[.val (.ref o0), .val (.double (0 : UInt64)), .second, .val (.long (1 : Int64)), .second, .val (.long bv), .second, .val (.int iv)] [(.long (0 : Int64)), (.long (2 : Int64))])) (fun t k => XS.lconst X12.here hx rfl (hb hby own_d_prog_5_5_68) k) ?_
        refine own_by (V := T12.setTop (mkF m 70 #[.val (.ref o0), .val (.double (0 : UInt64)), .second, .val (.long (1 : Int64)), .second, .val (.long bv), .second, .val (.int iv)] [(.int (lcmpW (2 : Int64) (0 : Int64)))])) (fun t k => XS.lcmp X12.here hx rfl (hb hby own_d_prog_5_5_69) rfl k) ?_
        have hb70_13 : ((0 : Int32) < (lcmpW (2 : Int64) (0 : Int64))) := by decide
        refine own_by (V := T12.setTop (mkF m 73 #[.val (.ref o0), .val (.double (0 : UInt64)), .second, .val (.long (1 : Int64)), .second, .val (.long bv), .second, .val (.int iv)] [])) (fun t k => XS.ifNo X12.here hx rfl (hb hby own_d_prog_5_5_70) rfl ((if0 _ _).trans (tlt hb70_13).2.2.2) k) ?_
        refine own_by (V := T12.setTop (mkF m 75 #[.val (.ref o0), .val (.double (0 : UInt64)), .second, .val (.long (1 : Int64)), .second, .val (.long bv), .second, .val (.int iv)] [(.int iv)])) (fun t k => XS.iload X12.here hx rfl (hb hby own_d_prog_5_5_73) rfl  k) ?_
        obtain ⟨_, _, ⟨T14, Lq14, kq14, nq14⟩, -, X14, ⟨Lc14, hQ14, lq14, yq14, zq14⟩, st14⟩ := Jvm.LawKit.callS X12 hx (y := (⟨"com/example/nocord/nocord/bench/Latencies", "middle", "(I)J"⟩ : MethodName)) hown (mvT hZ (hw _ (List.mem_of_getElem? (i := 53) rfl))) (mvT hZ (hw _ (List.mem_of_getElem? (i := 54) rfl))) (mvT hZ (hw _ (List.mem_of_getElem? (i := 3) rfl))) (mvT hZ (hw _ (List.mem_of_getElem? (i := 55) rfl))) (by decide) (backOf (W := 0) (own_rmid l Z a0 hw [] iv h0 n0) hZ (hw _ (List.mem_of_getElem? (i := 55) rfl)) (hw _ (List.mem_of_getElem? (i := 3) rfl)) (by decide) (by decide)) (g := (mkF m 75 #[.val (.ref o0), .val (.double (0 : UInt64)), .second, .val (.long (1 : Int64)), .second, .val (.long bv), .second, .val (.int iv)] [(.int iv)])) rfl (by rw [hml]; rfl) (argsL := [(.int iv)]) (rest := []) (lenOf own_pd5 rfl) rfl (by show 2 * 0 + _ ≤ _; exact Nat.le_of_eq rfl) (hb hby own_d_prog_5_5_75) (fun _ _ => ⟨rfl, e12, (by decide : 0 + 0 ≤ _), (by decide : 0 + 0 ≤ _)⟩)
        dsimp only [Pt.U, Pt.locs, Pt.cells, Pt.slots] at X14 lq14 yq14 zq14 st14 hQ14
        subst lq14 yq14 zq14
        obtain ⟨rfl, N14q, e14⟩ := hQ14
        have N14 := Fr.app N4 N14q
        refine own_by (V := T14.setTop (mkF m 78 #[.val (.ref o0), .val (.double (0 : UInt64)), .second, .val (.long (1 : Int64)), .second, .val (.long bv), .second, .val (.int iv)] [(.long (own_mid iv))])) st14 ?_
        refine own_by (V := T14.setTop (mkF m 82 #[.val (.ref o0), .val (.double (0 : UInt64)), .second, .val (.long (1 : Int64)), .second, .val (.long bv), .second, .val (.int iv)] [(.long (own_mid iv))])) (fun t k => XS.goto X14.here hx rfl (pc0 := 78) (pc' := 82) rfl (hb hby own_d_prog_5_5_78) (by decide) (by decide) k) ?_
        refine own_retL X14 hx hlk e14 Bd.returns (hb hby own_d_prog_5_5_82) ?_ (by decide) (by decide)
        exact ⟨iv, rfl, N14, rfl, hat⟩
  rw [show (own_max (1 : Int64) (0 : Int64)) = (1 : Int64) from by decide +kernel]
  exact J4 7296 T3 _ (0 : Int32) (0 : Int64) 0 (X3.more (by decide) (by decide)) e3 N3 rfl rfl rfl (by show (0 : Int) < 1; decide)
set_option maxRecDepth 65536 in
set_option maxHeartbeats 4000000 in
theorem own_ge_v1 {p : Program} {l : Launch} {e : Env} {s B Z : State} {a0 : Array Value} {m : MethodId} {below F : List Frame} {c : Code} {T : State} {n1 n2 : Nat} (hw : ∀ d ∈ tables_1, d.before a0 Z = true) (hZ : Z.Warmed39 s.vm) (X : own_N l e s B below F m c T n1 n2) (hx : p.tables.exec = Jvm.exec) (hown : s.vm.findClass "java/lang/StrictMath" = some m.cls) {g : JFrame} (hg : g.method = m) {rest : List Value} (hs : g.stack = (.double (4611686018427387904 : UInt64)) :: rest) (hd : decode c.code g.pc = .ok (.invokestatic 66, 3)) (h1 : 3 ≤ n1) {w : Nat} (hwd : g.locals.size + 11 + 2 * g.monitorRoom + operandWords rest = w) (h2 : w + 39 ≤ n2) :
    ∃ vm', own_N l e s B below F m c (T.setVm vm') n1 n2 ∧ ∀ t, Steps p.tables e below ((T.setVm vm').setTop { g with pc := g.pc + 3, stack := (.int (1 : Int32)) :: rest }) t → Steps p.tables e below (T.setTop g) t := by
  obtain ⟨m', M, cd, U0, Y0, hownm', hM, hlk, hr, hby, k⟩ := X.scall (args := #[]) hx hown (mvT hZ (hw _ (List.mem_of_getElem? (i := 44) rfl))) (mvT hZ (hw _ (List.mem_of_getElem? (i := 45) rfl))) (mvT hZ (hw _ (List.mem_of_getElem? (i := 20) rfl))) (mvT hZ (hw _ (List.mem_of_getElem? (i := 46) rfl))) (Jvm.Free.JP.mathPlain rfl (by decide +kernel)) (by decide) hg (aL := [(.double (4611686018427387904 : UInt64))]) (rest := rest) (fun sig h => by rw [own_pd3] at h; rw [← Option.some.inj h]; rfl) hs hd (by omega) hwd (by omega)
  replace hownm' : s.vm.findClass "java/lang/Math" = some m'.cls := hownm'
  obtain ⟨vg1, Yg1, kg1⟩ := Y0.raw (args := #[]) hx hownm' (mvT hZ (hw _ (List.mem_of_getElem? (i := 47) rfl))) (mvT hZ (hw _ (List.mem_of_getElem? (i := 50) rfl))) (mvT hZ (hw _ (List.mem_of_getElem? (i := 48) rfl))) (mvT hZ (hw _ (List.mem_of_getElem? (i := 49) rfl))) (g := (mkF m' 1 #[.val (.double (4611686018427387904 : UInt64)), .second] [(.double (4611686018427387904 : UInt64))])) rfl (rest := []) rfl (hb hby own_d_jdk_29_92_1) (by omega) (by simp only [mkF, operandWords, List.foldl, Value.category, List.size_toArray, List.length]; omega)
  have kl2 := fun t => own_N.ldcL (args := #[]) Yg1 hx hownm' (mvT hZ (hw _ (List.mem_of_getElem? (i := 51) rfl))) (g := (mkF m' 4 #[.val (.double (4611686018427387904 : UInt64)), .second] [(.long (4611686018427387904 : Int64))])) rfl (hb hby own_d_jdk_29_92_4) (t := t)
  have kl3 := fun t => own_N.ldcL (args := #[]) Yg1 hx hownm' (mvT hZ (hw _ (List.mem_of_getElem? (i := 52) rfl))) (g := (mkF m' 11 #[.val (.double (4611686018427387904 : UInt64)), .second] [(.long (1024 : Int64))])) rfl (hb hby own_d_jdk_29_92_11) (t := t)
  refine ⟨(U0.setVm vg1).vm, X.noted Yg1.warmed, fun t kk => k t ?_⟩
  have ef : entryFrame m' ([(.double (4611686018427387904 : UInt64))] : List Value).toArray 2 = (mkF m' 0 #[.val (.double (4611686018427387904 : UInt64)), .second] []) := by first | (simp [entryFrame, mkF, argsToLocals, Value.category]; done) | rfl
  rw [ef]
  refine XS.dloadN Y0.here hx rfl (hb hby own_d_jdk_29_92_0) rfl ?_
  show Steps p.tables e below (U0.setTop (mkF m' 1 #[.val (.double (4611686018427387904 : UInt64)), .second] [(.double (4611686018427387904 : UInt64))])) _
  refine kg1 _ ?_
  refine own_cast (v := (.long (4611686018427387904 : UInt64).toInt64)) (w := (.long (4611686018427387904 : Int64))) (m := m') (pc := 4) (L := #[.val (.double (4611686018427387904 : UInt64)), .second]) (S := []) (congrArg Value.long (by decide +kernel)) ?_
  refine kl2 _ ?_
  show Steps p.tables e below ((U0.setVm vg1).setTop (mkF m' 7 #[.val (.double (4611686018427387904 : UInt64)), .second] [(.long (9218868437227405312 : Int64)), (.long (4611686018427387904 : Int64))])) _
  refine XS.land Yg1.here hx rfl (hb hby own_d_jdk_29_92_7) rfl ?_
  refine own_cast (v := (.long ((4611686018427387904 : Int64) &&& (9218868437227405312 : Int64)))) (w := (.long (4611686018427387904 : Int64))) (m := m') (pc := 8) (L := #[.val (.double (4611686018427387904 : UInt64)), .second]) (S := []) (congrArg Value.long (by decide +kernel)) ?_
  refine XS.bipush Yg1.here hx rfl (hb hby own_d_jdk_29_92_8) ?_
  show Steps p.tables e below ((U0.setVm vg1).setTop (mkF m' 10 #[.val (.double (4611686018427387904 : UInt64)), .second] [(.int (52 : Int32)), (.long (4611686018427387904 : Int64))])) _
  refine XS.lshr Yg1.here hx rfl (hb hby own_d_jdk_29_92_10) rfl ?_
  refine own_cast (v := (.long ((4611686018427387904 : Int64) >>> ((52 : Int32) &&& 0x3f).toInt64))) (w := (.long (1024 : Int64))) (m := m') (pc := 11) (L := #[.val (.double (4611686018427387904 : UInt64)), .second]) (S := []) (congrArg Value.long (by decide +kernel)) ?_
  refine kl3 _ ?_
  show Steps p.tables e below ((U0.setVm vg1).setTop (mkF m' 14 #[.val (.double (4611686018427387904 : UInt64)), .second] [(.long (1023 : Int64)), (.long (1024 : Int64))])) _
  refine XS.lsub Yg1.here hx rfl (hb hby own_d_jdk_29_92_14) rfl ?_
  refine own_cast (v := (.long ((1024 : Int64) - (1023 : Int64)))) (w := (.long (1 : Int64))) (m := m') (pc := 15) (L := #[.val (.double (4611686018427387904 : UInt64)), .second]) (S := []) (congrArg Value.long (by decide +kernel)) ?_
  refine XS.l2i Yg1.here hx rfl (hb hby own_d_jdk_29_92_15) rfl ?_
  refine own_cast (v := (.int (1 : Int64).toInt32)) (w := (.int (1 : Int32))) (m := m') (pc := 16) (L := #[.val (.double (4611686018427387904 : UInt64)), .second]) (S := []) (congrArg Value.int (by decide +kernel)) ?_
  refine own_N.retI (g := { g with stack := rest }) Yg1 (by show own_N l e s B below F g.method c T n1 n2; rw [hg]; exact X) hx hM hlk hr (hb hby own_d_jdk_29_92_16) hd ?_
  exact kk
set_option maxRecDepth 65536 in
set_option maxHeartbeats 4000000 in
theorem own_fo_v1 {p : Program} {l : Launch} {e : Env} {s B Z : State} {a0 : Array Value} {m : MethodId} {below F : List Frame} {c : Code} {T : State} {n1 n2 : Nat} (hw : ∀ d ∈ tables_1, d.before a0 Z = true) (hZ : Z.Warmed39 s.vm) (X : own_N l e s B below F m c T n1 n2) (hx : p.tables.exec = Jvm.exec) (hown : s.vm.findClass "java/lang/StrictMath" = some m.cls) (hS : Sta s B.heap "java/lang/StrictMath" "$assertionsDisabled" "Z" (.int 1)) (hh : T.heap = B.heap) {g : JFrame} (hg : g.method = m) {rest : List Value} (hs : g.stack = (.double (4607182418800017408 : UInt64)) :: (.double (4607182418800017408 : UInt64)) :: (.double (9223372036854775808 : UInt64)) :: (.double (4611686018427387904 : UInt64)) :: rest) (hd : decode c.code g.pc = .ok (.invokestatic 60, 3)) (h1 : 4 ≤ n1) {w : Nat} (hwd : g.locals.size + 11 + 2 * g.monitorRoom + operandWords rest = w) (h2 : w + 86 ≤ n2) :
    ∃ vm', own_N l e s B below F m c (T.setVm vm') n1 n2 ∧ ∀ t, Steps p.tables e below ((T.setVm vm').setTop { g with pc := g.pc + 3, stack := (.double (4611686018427387904 : UInt64)) :: rest }) t → Steps p.tables e below (T.setTop g) t := by
  obtain ⟨m', M, cd, U0, Y0, hownm', hM, hlk, hr, hby, k⟩ := X.scall (args := #[]) hx hown (mvT hZ (hw _ (List.mem_of_getElem? (i := 41) rfl))) (mvT hZ (hw _ (List.mem_of_getElem? (i := 42) rfl))) (mvT hZ (hw _ (List.mem_of_getElem? (i := 38) rfl))) (mvT hZ (hw _ (List.mem_of_getElem? (i := 43) rfl))) (plainFor_of_name (by decide +kernel)) (by decide) hg (aL := [(.double (4611686018427387904 : UInt64)), (.double (9223372036854775808 : UInt64)), (.double (4607182418800017408 : UInt64)), (.double (4607182418800017408 : UInt64))]) (rest := rest) (fun sig h => by rw [own_pd4] at h; rw [← Option.some.inj h]; rfl) hs hd (by omega) hwd (by omega)
  replace hownm' : s.vm.findClass "java/lang/StrictMath" = some m'.cls := hownm'
  obtain ⟨vg1, Yg1, kg1⟩ := own_ge_v1 hw hZ Y0 hx hownm' (g := (mkF m' 1 #[.val (.double (4611686018427387904 : UInt64)), .second, .val (.double (9223372036854775808 : UInt64)), .second, .val (.double (4607182418800017408 : UInt64)), .second, .val (.double (4607182418800017408 : UInt64)), .second, .unset, .unset, .unset, .unset, .unset, .unset, .unset] [(.double (4611686018427387904 : UInt64))])) rfl (rest := []) rfl (hb hby own_d_jdk_128_18_1) (by omega) rfl (by simp only [mkF, operandWords, List.foldl, Value.category, List.size_toArray, List.length]; omega)
  obtain ⟨vg2, Yg2, kg2⟩ := Yg1.getst (args := #[]) (v := .int 1) hx hownm' (mvT hZ (hw _ (List.mem_of_getElem? (i := 56) rfl))) (by rw [Yg1.heapEq, hh]; exact hS) (g := (mkF m' 43 #[.val (.double (4611686018427387904 : UInt64)), .second, .val (.double (9223372036854775808 : UInt64)), .second, .val (.double (4607182418800017408 : UInt64)), .second, .val (.double (4607182418800017408 : UInt64)), .second, .val (.int (1 : Int32)), .unset, .unset, .unset, .unset, .unset, .unset] [])) rfl (hb hby own_d_jdk_128_18_43)
  obtain ⟨vg3, Yg3, kg3⟩ := Yg2.raw (args := #[]) hx hownm' (mvT hZ (hw _ (List.mem_of_getElem? (i := 57) rfl))) (mvT hZ (hw _ (List.mem_of_getElem? (i := 50) rfl))) (mvT hZ (hw _ (List.mem_of_getElem? (i := 48) rfl))) (mvT hZ (hw _ (List.mem_of_getElem? (i := 49) rfl))) (g := (mkF m' 70 #[.val (.double (4611686018427387904 : UInt64)), .second, .val (.double (9223372036854775808 : UInt64)), .second, .val (.double (4607182418800017408 : UInt64)), .second, .val (.double (4607182418800017408 : UInt64)), .second, .val (.int (1 : Int32)), .unset, .unset, .unset, .unset, .unset, .unset] [(.double (4611686018427387904 : UInt64))])) rfl (rest := []) rfl (hb hby own_d_jdk_128_18_70) (by omega) (by simp only [mkF, operandWords, List.foldl, Value.category, List.size_toArray, List.length]; omega)
  have kl4 := fun t => own_N.ldcL (args := #[]) Yg3 hx hownm' (mvT hZ (hw _ (List.mem_of_getElem? (i := 58) rfl))) (g := (mkF m' 75 #[.val (.double (4611686018427387904 : UInt64)), .second, .val (.double (9223372036854775808 : UInt64)), .second, .val (.double (4607182418800017408 : UInt64)), .second, .val (.double (4607182418800017408 : UInt64)), .second, .val (.int (1 : Int32)), .val (.long (4611686018427387904 : Int64)), .second, .unset, .unset, .unset, .unset] [])) rfl (hb hby own_d_jdk_128_18_75) (t := t)
  refine ⟨(((U0.setVm vg1).setVm vg2).setVm vg3).vm, X.noted Yg3.warmed, fun t kk => k t ?_⟩
  have ef : entryFrame m' ([(.double (4611686018427387904 : UInt64)), (.double (9223372036854775808 : UInt64)), (.double (4607182418800017408 : UInt64)), (.double (4607182418800017408 : UInt64))] : List Value).toArray 15 = (mkF m' 0 #[.val (.double (4611686018427387904 : UInt64)), .second, .val (.double (9223372036854775808 : UInt64)), .second, .val (.double (4607182418800017408 : UInt64)), .second, .val (.double (4607182418800017408 : UInt64)), .second, .unset, .unset, .unset, .unset, .unset, .unset, .unset] []) := by first | (simp [entryFrame, mkF, argsToLocals, Value.category]; done) | rfl
  rw [ef]
  refine XS.dloadN Y0.here hx rfl (hb hby own_d_jdk_128_18_0) rfl ?_
  show Steps p.tables e below (U0.setTop (mkF m' 1 #[.val (.double (4611686018427387904 : UInt64)), .second, .val (.double (9223372036854775808 : UInt64)), .second, .val (.double (4607182418800017408 : UInt64)), .second, .val (.double (4607182418800017408 : UInt64)), .second, .unset, .unset, .unset, .unset, .unset, .unset, .unset] [(.double (4611686018427387904 : UInt64))])) _
  refine kg1 _ ?_
  show Steps p.tables e below ((U0.setVm vg1).setTop (mkF m' 4 #[.val (.double (4611686018427387904 : UInt64)), .second, .val (.double (9223372036854775808 : UInt64)), .second, .val (.double (4607182418800017408 : UInt64)), .second, .val (.double (4607182418800017408 : UInt64)), .second, .unset, .unset, .unset, .unset, .unset, .unset, .unset] [(.int (1 : Int32))])) _
  refine XS.istore Yg1.here hx rfl (hb hby own_d_jdk_128_18_4) rfl (l' := #[.val (.double (4611686018427387904 : UInt64)), .second, .val (.double (9223372036854775808 : UInt64)), .second, .val (.double (4607182418800017408 : UInt64)), .second, .val (.double (4607182418800017408 : UInt64)), .second, .val (.int (1 : Int32)), .unset, .unset, .unset, .unset, .unset, .unset]) rfl ?_
  show Steps p.tables e below ((U0.setVm vg1).setTop (mkF m' 6 #[.val (.double (4611686018427387904 : UInt64)), .second, .val (.double (9223372036854775808 : UInt64)), .second, .val (.double (4607182418800017408 : UInt64)), .second, .val (.double (4607182418800017408 : UInt64)), .second, .val (.int (1 : Int32)), .unset, .unset, .unset, .unset, .unset, .unset] [])) _
  refine XS.iload Yg1.here hx rfl (hb hby own_d_jdk_128_18_6) rfl ?_
  show Steps p.tables e below ((U0.setVm vg1).setTop (mkF m' 8 #[.val (.double (4611686018427387904 : UInt64)), .second, .val (.double (9223372036854775808 : UInt64)), .second, .val (.double (4607182418800017408 : UInt64)), .second, .val (.double (4607182418800017408 : UInt64)), .second, .val (.int (1 : Int32)), .unset, .unset, .unset, .unset, .unset, .unset] [(.int (1 : Int32))])) _
  refine XS.ifYes Yg1.here hx rfl (pc0 := 8) (pc' := 34) rfl (hb hby own_d_jdk_128_18_8) rfl (by decide +kernel) (by decide) (by decide) ?_
  show Steps p.tables e below ((U0.setVm vg1).setTop (mkF m' 34 #[.val (.double (4611686018427387904 : UInt64)), .second, .val (.double (9223372036854775808 : UInt64)), .second, .val (.double (4607182418800017408 : UInt64)), .second, .val (.double (4607182418800017408 : UInt64)), .second, .val (.int (1 : Int32)), .unset, .unset, .unset, .unset, .unset, .unset] [])) _
  refine XS.iload Yg1.here hx rfl (hb hby own_d_jdk_128_18_34) rfl ?_
  show Steps p.tables e below ((U0.setVm vg1).setTop (mkF m' 36 #[.val (.double (4611686018427387904 : UInt64)), .second, .val (.double (9223372036854775808 : UInt64)), .second, .val (.double (4607182418800017408 : UInt64)), .second, .val (.double (4607182418800017408 : UInt64)), .second, .val (.int (1 : Int32)), .unset, .unset, .unset, .unset, .unset, .unset] [(.int (1 : Int32))])) _
  refine XS.bipush Yg1.here hx rfl (hb hby own_d_jdk_128_18_36) ?_
  show Steps p.tables e below ((U0.setVm vg1).setTop (mkF m' 38 #[.val (.double (4611686018427387904 : UInt64)), .second, .val (.double (9223372036854775808 : UInt64)), .second, .val (.double (4607182418800017408 : UInt64)), .second, .val (.double (4607182418800017408 : UInt64)), .second, .val (.int (1 : Int32)), .unset, .unset, .unset, .unset, .unset, .unset] [(.int (52 : Int32)), (.int (1 : Int32))])) _
  refine XS.icmpYes Yg1.here hx rfl (pc0 := 38) (pc' := 43) rfl (hb hby own_d_jdk_128_18_38) rfl (by decide +kernel) (by decide) (by decide) ?_
  show Steps p.tables e below ((U0.setVm vg1).setTop (mkF m' 43 #[.val (.double (4611686018427387904 : UInt64)), .second, .val (.double (9223372036854775808 : UInt64)), .second, .val (.double (4607182418800017408 : UInt64)), .second, .val (.double (4607182418800017408 : UInt64)), .second, .val (.int (1 : Int32)), .unset, .unset, .unset, .unset, .unset, .unset] [])) _
  refine kg2 _ ?_
  show Steps p.tables e below (((U0.setVm vg1).setVm vg2).setTop (mkF m' 46 #[.val (.double (4611686018427387904 : UInt64)), .second, .val (.double (9223372036854775808 : UInt64)), .second, .val (.double (4607182418800017408 : UInt64)), .second, .val (.double (4607182418800017408 : UInt64)), .second, .val (.int (1 : Int32)), .unset, .unset, .unset, .unset, .unset, .unset] [(.int (1 : Int32))])) _
  refine XS.ifYes Yg2.here hx rfl (pc0 := 46) (pc' := 69) rfl (hb hby own_d_jdk_128_18_46) rfl (by decide +kernel) (by decide) (by decide) ?_
  show Steps p.tables e below (((U0.setVm vg1).setVm vg2).setTop (mkF m' 69 #[.val (.double (4611686018427387904 : UInt64)), .second, .val (.double (9223372036854775808 : UInt64)), .second, .val (.double (4607182418800017408 : UInt64)), .second, .val (.double (4607182418800017408 : UInt64)), .second, .val (.int (1 : Int32)), .unset, .unset, .unset, .unset, .unset, .unset] [])) _
  refine XS.dloadN Yg2.here hx rfl (hb hby own_d_jdk_128_18_69) rfl ?_
  show Steps p.tables e below (((U0.setVm vg1).setVm vg2).setTop (mkF m' 70 #[.val (.double (4611686018427387904 : UInt64)), .second, .val (.double (9223372036854775808 : UInt64)), .second, .val (.double (4607182418800017408 : UInt64)), .second, .val (.double (4607182418800017408 : UInt64)), .second, .val (.int (1 : Int32)), .unset, .unset, .unset, .unset, .unset, .unset] [(.double (4611686018427387904 : UInt64))])) _
  refine kg3 _ ?_
  refine own_cast (v := (.long (4611686018427387904 : UInt64).toInt64)) (w := (.long (4611686018427387904 : Int64))) (m := m') (pc := 73) (L := #[.val (.double (4611686018427387904 : UInt64)), .second, .val (.double (9223372036854775808 : UInt64)), .second, .val (.double (4607182418800017408 : UInt64)), .second, .val (.double (4607182418800017408 : UInt64)), .second, .val (.int (1 : Int32)), .unset, .unset, .unset, .unset, .unset, .unset]) (S := []) (congrArg Value.long (by decide +kernel)) ?_
  refine XS.lstore Yg3.here hx rfl (hb hby own_d_jdk_128_18_73) rfl (l' := #[.val (.double (4611686018427387904 : UInt64)), .second, .val (.double (9223372036854775808 : UInt64)), .second, .val (.double (4607182418800017408 : UInt64)), .second, .val (.double (4607182418800017408 : UInt64)), .second, .val (.int (1 : Int32)), .val (.long (4611686018427387904 : Int64)), .second, .unset, .unset, .unset, .unset]) rfl ?_
  show Steps p.tables e below ((((U0.setVm vg1).setVm vg2).setVm vg3).setTop (mkF m' 75 #[.val (.double (4611686018427387904 : UInt64)), .second, .val (.double (9223372036854775808 : UInt64)), .second, .val (.double (4607182418800017408 : UInt64)), .second, .val (.double (4607182418800017408 : UInt64)), .second, .val (.int (1 : Int32)), .val (.long (4611686018427387904 : Int64)), .second, .unset, .unset, .unset, .unset] [])) _
  refine kl4 _ ?_
  show Steps p.tables e below ((((U0.setVm vg1).setVm vg2).setVm vg3).setTop (mkF m' 78 #[.val (.double (4611686018427387904 : UInt64)), .second, .val (.double (9223372036854775808 : UInt64)), .second, .val (.double (4607182418800017408 : UInt64)), .second, .val (.double (4607182418800017408 : UInt64)), .second, .val (.int (1 : Int32)), .val (.long (4611686018427387904 : Int64)), .second, .unset, .unset, .unset, .unset] [(.long (4503599627370495 : Int64))])) _
  refine XS.iload Yg3.here hx rfl (hb hby own_d_jdk_128_18_78) rfl ?_
  show Steps p.tables e below ((((U0.setVm vg1).setVm vg2).setVm vg3).setTop (mkF m' 80 #[.val (.double (4611686018427387904 : UInt64)), .second, .val (.double (9223372036854775808 : UInt64)), .second, .val (.double (4607182418800017408 : UInt64)), .second, .val (.double (4607182418800017408 : UInt64)), .second, .val (.int (1 : Int32)), .val (.long (4611686018427387904 : Int64)), .second, .unset, .unset, .unset, .unset] [(.int (1 : Int32)), (.long (4503599627370495 : Int64))])) _
  refine XS.lshr Yg3.here hx rfl (hb hby own_d_jdk_128_18_80) rfl ?_
  refine own_cast (v := (.long ((4503599627370495 : Int64) >>> ((1 : Int32) &&& 0x3f).toInt64))) (w := (.long (2251799813685247 : Int64))) (m := m') (pc := 81) (L := #[.val (.double (4611686018427387904 : UInt64)), .second, .val (.double (9223372036854775808 : UInt64)), .second, .val (.double (4607182418800017408 : UInt64)), .second, .val (.double (4607182418800017408 : UInt64)), .second, .val (.int (1 : Int32)), .val (.long (4611686018427387904 : Int64)), .second, .unset, .unset, .unset, .unset]) (S := []) (congrArg Value.long (by decide +kernel)) ?_
  refine XS.lstore Yg3.here hx rfl (hb hby own_d_jdk_128_18_81) rfl (l' := #[.val (.double (4611686018427387904 : UInt64)), .second, .val (.double (9223372036854775808 : UInt64)), .second, .val (.double (4607182418800017408 : UInt64)), .second, .val (.double (4607182418800017408 : UInt64)), .second, .val (.int (1 : Int32)), .val (.long (4611686018427387904 : Int64)), .second, .val (.long (2251799813685247 : Int64)), .second, .unset, .unset]) rfl ?_
  show Steps p.tables e below ((((U0.setVm vg1).setVm vg2).setVm vg3).setTop (mkF m' 83 #[.val (.double (4611686018427387904 : UInt64)), .second, .val (.double (9223372036854775808 : UInt64)), .second, .val (.double (4607182418800017408 : UInt64)), .second, .val (.double (4607182418800017408 : UInt64)), .second, .val (.int (1 : Int32)), .val (.long (4611686018427387904 : Int64)), .second, .val (.long (2251799813685247 : Int64)), .second, .unset, .unset] [])) _
  refine XS.lload Yg3.here hx rfl (hb hby own_d_jdk_128_18_83) rfl ?_
  show Steps p.tables e below ((((U0.setVm vg1).setVm vg2).setVm vg3).setTop (mkF m' 85 #[.val (.double (4611686018427387904 : UInt64)), .second, .val (.double (9223372036854775808 : UInt64)), .second, .val (.double (4607182418800017408 : UInt64)), .second, .val (.double (4607182418800017408 : UInt64)), .second, .val (.int (1 : Int32)), .val (.long (4611686018427387904 : Int64)), .second, .val (.long (2251799813685247 : Int64)), .second, .unset, .unset] [(.long (2251799813685247 : Int64))])) _
  refine XS.lload Yg3.here hx rfl (hb hby own_d_jdk_128_18_85) rfl ?_
  show Steps p.tables e below ((((U0.setVm vg1).setVm vg2).setVm vg3).setTop (mkF m' 87 #[.val (.double (4611686018427387904 : UInt64)), .second, .val (.double (9223372036854775808 : UInt64)), .second, .val (.double (4607182418800017408 : UInt64)), .second, .val (.double (4607182418800017408 : UInt64)), .second, .val (.int (1 : Int32)), .val (.long (4611686018427387904 : Int64)), .second, .val (.long (2251799813685247 : Int64)), .second, .unset, .unset] [(.long (4611686018427387904 : Int64)), (.long (2251799813685247 : Int64))])) _
  refine XS.land Yg3.here hx rfl (hb hby own_d_jdk_128_18_87) rfl ?_
  refine own_cast (v := (.long ((2251799813685247 : Int64) &&& (4611686018427387904 : Int64)))) (w := (.long (0 : Int64))) (m := m') (pc := 88) (L := #[.val (.double (4611686018427387904 : UInt64)), .second, .val (.double (9223372036854775808 : UInt64)), .second, .val (.double (4607182418800017408 : UInt64)), .second, .val (.double (4607182418800017408 : UInt64)), .second, .val (.int (1 : Int32)), .val (.long (4611686018427387904 : Int64)), .second, .val (.long (2251799813685247 : Int64)), .second, .unset, .unset]) (S := []) (congrArg Value.long (by decide +kernel)) ?_
  refine XS.lconst Yg3.here hx rfl (hb hby own_d_jdk_128_18_88) ?_
  show Steps p.tables e below ((((U0.setVm vg1).setVm vg2).setVm vg3).setTop (mkF m' 89 #[.val (.double (4611686018427387904 : UInt64)), .second, .val (.double (9223372036854775808 : UInt64)), .second, .val (.double (4607182418800017408 : UInt64)), .second, .val (.double (4607182418800017408 : UInt64)), .second, .val (.int (1 : Int32)), .val (.long (4611686018427387904 : Int64)), .second, .val (.long (2251799813685247 : Int64)), .second, .unset, .unset] [(.long (0 : Int64)), (.long (0 : Int64))])) _
  refine XS.lcmp Yg3.here hx rfl (hb hby own_d_jdk_128_18_89) rfl ?_
  refine own_cast (v := (.int (lcmpW (0 : Int64) (0 : Int64)))) (w := (.int (0 : Int32))) (m := m') (pc := 90) (L := #[.val (.double (4611686018427387904 : UInt64)), .second, .val (.double (9223372036854775808 : UInt64)), .second, .val (.double (4607182418800017408 : UInt64)), .second, .val (.double (4607182418800017408 : UInt64)), .second, .val (.int (1 : Int32)), .val (.long (4611686018427387904 : Int64)), .second, .val (.long (2251799813685247 : Int64)), .second, .unset, .unset]) (S := []) (congrArg Value.int (by decide +kernel)) ?_
  refine XS.ifNo Yg3.here hx rfl (hb hby own_d_jdk_128_18_90) rfl (by decide +kernel) ?_
  show Steps p.tables e below ((((U0.setVm vg1).setVm vg2).setVm vg3).setTop (mkF m' 93 #[.val (.double (4611686018427387904 : UInt64)), .second, .val (.double (9223372036854775808 : UInt64)), .second, .val (.double (4607182418800017408 : UInt64)), .second, .val (.double (4607182418800017408 : UInt64)), .second, .val (.int (1 : Int32)), .val (.long (4611686018427387904 : Int64)), .second, .val (.long (2251799813685247 : Int64)), .second, .unset, .unset] [])) _
  refine XS.dloadN Yg3.here hx rfl (hb hby own_d_jdk_128_18_93) rfl ?_
  show Steps p.tables e below ((((U0.setVm vg1).setVm vg2).setVm vg3).setTop (mkF m' 94 #[.val (.double (4611686018427387904 : UInt64)), .second, .val (.double (9223372036854775808 : UInt64)), .second, .val (.double (4607182418800017408 : UInt64)), .second, .val (.double (4607182418800017408 : UInt64)), .second, .val (.int (1 : Int32)), .val (.long (4611686018427387904 : Int64)), .second, .val (.long (2251799813685247 : Int64)), .second, .unset, .unset] [(.double (4611686018427387904 : UInt64))])) _
  refine own_N.retD (g := { g with stack := rest }) Yg3 (by show own_N l e s B below F g.method c T n1 n2; rw [hg]; exact X) hx hM hlk hr (hb hby own_d_jdk_128_18_94) hd ?_
  exact kk
set_option maxRecDepth 65536 in
set_option maxHeartbeats 4000000 in
theorem own_sc_v1 {p : Program} {l : Launch} {e : Env} {s B Z : State} {a0 : Array Value} {m : MethodId} {below F : List Frame} {c : Code} {T : State} {n1 n2 : Nat} (hw : ∀ d ∈ tables_1, d.before a0 Z = true) (hZ : Z.Warmed39 s.vm) (X : own_N l e s B below F m c T n1 n2) (hx : p.tables.exec = Jvm.exec) (hownm : s.vm.findClass "java/lang/StrictMath" = some m.cls) (hS : Sta s B.heap "java/lang/StrictMath" "$assertionsDisabled" "Z" (.int 1)) (hh : T.heap = B.heap) (hby : c.code = jdk_128_method_16_code) (h1 : 5 ≤ n1) (h2 : 130 ≤ n2) :
    ∃ vm', own_N l e s B below F m c (T.setVm vm') n1 n2 ∧ ∀ t, Steps p.tables e below ((T.setVm vm').setTop (mkF m 9 #[.val (.double (4611686018427387904 : UInt64)), .second] [(.double (4611686018427387904 : UInt64))])) t → Steps p.tables e below (T.setTop (mkF m 0 #[.val (.double (4611686018427387904 : UInt64)), .second] [])) t := by
  have kl1 := fun t => own_N.ldcD (args := #[]) X hx hownm (mvT hZ (hw _ (List.mem_of_getElem? (i := 40) rfl))) (g := (mkF m 1 #[.val (.double (4611686018427387904 : UInt64)), .second] [(.double (4611686018427387904 : UInt64))])) rfl (hb hby own_d_jdk_128_16_1) (t := t)
  obtain ⟨vg2, Yg2, kg2⟩ := own_fo_v1 hw hZ X hx hownm hS hh (g := (mkF m 6 #[.val (.double (4611686018427387904 : UInt64)), .second] [(.double (4607182418800017408 : UInt64)), (.double (4607182418800017408 : UInt64)), (.double (9223372036854775808 : UInt64)), (.double (4611686018427387904 : UInt64))])) rfl (rest := []) rfl (hb hby own_d_jdk_128_16_6) (by omega) rfl (by simp only [mkF, operandWords, List.foldl, Value.category, List.size_toArray, List.length]; omega)
  refine ⟨(T.setVm vg2).vm, Yg2, fun t kk => ?_⟩
  refine XS.dloadN X.here hx rfl (hb hby own_d_jdk_128_16_0) rfl ?_
  show Steps p.tables e below (T.setTop (mkF m 1 #[.val (.double (4611686018427387904 : UInt64)), .second] [(.double (4611686018427387904 : UInt64))])) _
  refine kl1 _ ?_
  show Steps p.tables e below (T.setTop (mkF m 4 #[.val (.double (4611686018427387904 : UInt64)), .second] [(.double (9223372036854775808 : UInt64)), (.double (4611686018427387904 : UInt64))])) _
  refine XS.dconst1 X.here hx rfl (hb hby own_d_jdk_128_16_4) (v := 4607182418800017408) (by decide +kernel) ?_
  show Steps p.tables e below (T.setTop (mkF m 5 #[.val (.double (4611686018427387904 : UInt64)), .second] [(.double (4607182418800017408 : UInt64)), (.double (9223372036854775808 : UInt64)), (.double (4611686018427387904 : UInt64))])) _
  refine XS.dconst1 X.here hx rfl (hb hby own_d_jdk_128_16_5) (v := 4607182418800017408) (by decide +kernel) ?_
  show Steps p.tables e below (T.setTop (mkF m 6 #[.val (.double (4611686018427387904 : UInt64)), .second] [(.double (4607182418800017408 : UInt64)), (.double (4607182418800017408 : UInt64)), (.double (9223372036854775808 : UInt64)), (.double (4611686018427387904 : UInt64))])) _
  refine kg2 _ ?_
  show Steps p.tables e below ((T.setVm vg2).setTop (mkF m 9 #[.val (.double (4611686018427387904 : UInt64)), .second] [(.double (4611686018427387904 : UInt64))])) _
  exact kk
def own_Q_own_rpct_2_2 (Z : State) (o0 : Addr) (b0 : Addr) (k0 : ClassId) (f0 : Nat → Int64) (h0 : Heap) (n0 : Nat) : Option Value → Heap → List Loc → Prop := fun v h L => ∃ (ix : Int32), v = some (.long (own_mid ix)) ∧ Fr n0 L ∧ h = h0 ∧ own_at f0 2 ix
theorem own_ef_own_rpct_2_2 (m : MethodId) (x0 : Addr) : entryFrame m #[(.ref x0), (.double (4607182418800017408 : UInt64))] 8 = mkF m 0 #[.val (.ref x0), .val (.double (4607182418800017408 : UInt64)), .second, .unset, .unset, .unset, .unset, .unset] [] := by first | (simp [entryFrame, mkF, argsToLocals, Value.category]; done) | rfl
set_option maxRecDepth 65536 in
set_option maxHeartbeats 40000000 in
theorem own_rpct_2_2 (l : Launch) (Z : State) (a0 : Array Value) (hw : ∀ d ∈ tables_1, d.before a0 Z = true) (ws : List Jvm.Cond) (o0 : Addr) (b0 : Addr) (k0 : ClassId) (f0 : Nat → Int64) (h0 : Heap) (n0 : Nat) (Z0 : n0 ≤ h0.size) (Fc0 : Fld Z h0 o0 "com/example/nocord/nocord/bench/Latencies" "counts" "[J" (.ref b0)) (Ft0 : Fld Z h0 o0 "com/example/nocord/nocord/bench/Latencies" "total" "J" (.long (2 : Int64))) (A0 : own_Arf Z h0 b0 k0 f0) (hsm : own_small f0) (hsum : own_pre f0 7296 = 2) (SA : Sta Z h0 "java/lang/StrictMath" "$assertionsDisabled" "Z" (.int (1 : Int32))) :
    MetFree l (⟨"com/example/nocord/nocord/bench/Latencies", "percentile", "(D)J"⟩ : MethodName) (head1 (Jvm.Cond.code (⟨"com/example/nocord/nocord/bench/Latencies", "percentile", "(D)J"⟩ : MethodName) prog_5_method_5_code 8 (some .long) :: ws) ({ frames := 7, cells := 0, slots := 0, locals := 132 } : Room)) (fun a U => a = #[(.ref o0), (.double (4607182418800017408 : UInt64))] ∧ Z.Warmed39 U.vm ∧ U.heap = h0) (fun _ _ _ _ _ => True) (fun _ U o U' => ∃ v L, o = .returned v ∧ (own_Q_own_rpct_2_2 Z o0 b0 k0 f0 h0 n0) v U'.heap L ∧ FrameEnd U o U' L ({ frames := 7, cells := 0, slots := 0, locals := 132 } : Room).cells ({ frames := 7, cells := 0, slots := 0, locals := 132 } : Room).slots) := by
  refine MetFree.of_bodySF (plainFor_of_name own_pn2) hisR ?_
  intro p e s m args below meth c s₁ Bd hml0 hP hK
  obtain ⟨rfl, hZ, hh⟩ := hP
  have hx := Bd.exec
  have hby := Bd.bytes
  have hml : c.maxLocals = 8 := hml0
  have hown : s.vm.findClass "com/example/nocord/nocord/bench/Latencies" = some m.cls := findClass_of_methodNamed Bd.named
  have hnm := (name_of_methodNamed Bd.named Bd.method).1
  have hlk : meth.locks = false := BodyLoose.notSynchronized Bd
  have X0 : Stand p l e ({ frames := 7, cells := 0, slots := 0, locals := 132 } : Room) s m #[(.ref o0), (.double (4607182418800017408 : UInt64))] below meth c s₁ [] 0 0 := Stand.of_body Bd
  have e0 : s₁.heap = h0 := by rw [← hh, Bd.state]; rfl
  have N0 := Fr.nil n0
  show own_Ends p e below s (own_Q_own_rpct_2_2 Z o0 b0 k0 f0 h0 n0) ({ frames := 7, cells := 0, slots := 0, locals := 132 } : Room).cells ({ frames := 7, cells := 0, slots := 0, locals := 132 } : Room).slots _
  refine own_by (V := s₁.setTop (mkF m 0 #[.val (.ref o0), .val (.double (4607182418800017408 : UInt64)), .second, .unset, .unset, .unset, .unset, .unset] [])) (fun t k => castTop (own_ef_own_rpct_2_2 m o0) k) ?_
  refine own_by (V := s₁.setTop (mkF m 1 #[.val (.ref o0), .val (.double (4607182418800017408 : UInt64)), .second, .unset, .unset, .unset, .unset, .unset] [(.long (1 : Int64))])) (fun t k => XS.lconst X0.here hx rfl (hb hby own_d_prog_5_5_0) k) ?_
  refine own_by (V := s₁.setTop (mkF m 2 #[.val (.ref o0), .val (.double (4607182418800017408 : UInt64)), .second, .unset, .unset, .unset, .unset, .unset] [(.double (4607182418800017408 : UInt64)), (.long (1 : Int64))])) (fun t k => XS.dloadN X0.here hx rfl (hb hby own_d_prog_5_5_1) rfl  k) ?_
  refine own_by (V := s₁.setTop (mkF m 3 #[.val (.ref o0), .val (.double (4607182418800017408 : UInt64)), .second, .unset, .unset, .unset, .unset, .unset] [(.ref o0), (.double (4607182418800017408 : UInt64)), (.long (1 : Int64))])) (fun t k => XS.aloadN X0.here hx rfl (hb hby own_d_prog_5_5_2) rfl rfl k) ?_
  obtain ⟨T1, X1, e1, st1⟩ := getF X0 hx hZ hown (host := "") (Or.inl (hw _ (List.mem_of_getElem? (i := 26) rfl))) Via.refl e0 Ft0 (g := (mkF m 3 #[.val (.ref o0), .val (.double (4607182418800017408 : UInt64)), .second, .unset, .unset, .unset, .unset, .unset] [(.ref o0), (.double (4607182418800017408 : UInt64)), (.long (1 : Int64))])) rfl rfl (hb hby own_d_prog_5_5_3)
  refine own_by (V := T1.setTop (mkF m 6 #[.val (.ref o0), .val (.double (4607182418800017408 : UInt64)), .second, .unset, .unset, .unset, .unset, .unset] [(.long (2 : Int64)), (.double (4607182418800017408 : UInt64)), (.long (1 : Int64))])) st1 ?_
  refine own_by (V := T1.setTop (mkF m 7 #[.val (.ref o0), .val (.double (4607182418800017408 : UInt64)), .second, .unset, .unset, .unset, .unset, .unset] [(.double (4611686018427387904 : UInt64)), (.double (4607182418800017408 : UInt64)), (.long (1 : Int64))])) (fun t k => XS.l2dS X1.here hx rfl (hb hby own_d_prog_5_5_6) rfl (v := (4611686018427387904 : UInt64)) (by decide +kernel) k) ?_
  refine own_by (V := T1.setTop (mkF m 8 #[.val (.ref o0), .val (.double (4607182418800017408 : UInt64)), .second, .unset, .unset, .unset, .unset, .unset] [(.double (4611686018427387904 : UInt64)), (.long (1 : Int64))])) (fun t k => XS.dmulS X1.here hx rfl (hb hby own_d_prog_5_5_7) rfl (by unfold Jvm.Free.Fl.NoNaN64; decide +kernel) (v := (4611686018427387904 : UInt64)) (by decide +kernel) k) ?_
  obtain ⟨T2, X2, e2, st2⟩ := own_ceilZ X1 hx (r := 4611686018427387904) e1 hown (mvT hZ (hw _ (List.mem_of_getElem? (i := 33) rfl))) (mvT hZ (hw _ (List.mem_of_getElem? (i := 34) rfl))) (mvT hZ (hw _ (List.mem_of_getElem? (i := 20) rfl))) (mvT hZ (hw _ (List.mem_of_getElem? (i := 35) rfl))) (mvT hZ (hw _ (List.mem_of_getElem? (i := 38) rfl))) (mvT hZ (hw _ (List.mem_of_getElem? (i := 39) rfl))) (own_staS hZ SA) (by decide +kernel) own_d_jdk_128_16_9 (fun Y a1 a2 a3 a4 a5 a6 => own_sc_v1 hw hZ Y hx a1 a2 a3 a4 a5 a6) (g := (mkF m 8 #[.val (.ref o0), .val (.double (4607182418800017408 : UInt64)), .second, .unset, .unset, .unset, .unset, .unset] [(.double (4611686018427387904 : UInt64)), (.long (1 : Int64))])) rfl (by rw [hml]; rfl) (rest := [(.long (1 : Int64))]) rfl (hb hby own_d_prog_5_5_8) (by decide) (by show 2 * 0 + 2 + 130 ≤ _; decide)
  refine own_by (V := T2.setTop (mkF m 11 #[.val (.ref o0), .val (.double (4607182418800017408 : UInt64)), .second, .unset, .unset, .unset, .unset, .unset] [(.double (4611686018427387904 : UInt64)), (.long (1 : Int64))])) st2 ?_
  refine own_by (V := T2.setTop (mkF m 12 #[.val (.ref o0), .val (.double (4607182418800017408 : UInt64)), .second, .unset, .unset, .unset, .unset, .unset] [(.long (2 : Int64)), (.long (1 : Int64))])) (fun t k => XS.d2lS X2.here hx rfl (hb hby own_d_prog_5_5_11) rfl (v := (2 : Int64)) (by decide +kernel) k) ?_
  obtain ⟨_, _, ⟨T3, Lq3, kq3, nq3⟩, -, X3, ⟨Lc3, hQ3, lq3, yq3, zq3⟩, st3⟩ := Jvm.LawKit.callS X2 hx (y := (⟨"java/lang/Math", "max", "(JJ)J"⟩ : MethodName)) hown (mvT hZ (hw _ (List.mem_of_getElem? (i := 18) rfl))) (mvT hZ (hw _ (List.mem_of_getElem? (i := 19) rfl))) (mvT hZ (hw _ (List.mem_of_getElem? (i := 20) rfl))) (mvT hZ (hw _ (List.mem_of_getElem? (i := 21) rfl))) (by decide) (backOf (W := 0) (own_rmax l Z a0 hw [] (1 : Int64) (2 : Int64) h0 n0) hZ (hw _ (List.mem_of_getElem? (i := 21) rfl)) (hw _ (List.mem_of_getElem? (i := 20) rfl)) (by decide) (by decide)) (g := (mkF m 12 #[.val (.ref o0), .val (.double (4607182418800017408 : UInt64)), .second, .unset, .unset, .unset, .unset, .unset] [(.long (2 : Int64)), (.long (1 : Int64))])) rfl (by rw [hml]; rfl) (argsL := [(.long (1 : Int64)), (.long (2 : Int64))]) (rest := []) (lenOf own_pd2 rfl) rfl (by show 2 * 0 + _ ≤ _; exact Nat.le_of_eq rfl) (hb hby own_d_prog_5_5_12) (fun _ _ => ⟨rfl, e2, (by decide : 0 + 0 ≤ _), (by decide : 0 + 0 ≤ _)⟩)
  dsimp only [Pt.U, Pt.locs, Pt.cells, Pt.slots] at X3 lq3 yq3 zq3 st3 hQ3
  subst lq3 yq3 zq3
  obtain ⟨rfl, N3q, e3⟩ := hQ3
  have N3 := Fr.app N0 N3q
  refine own_by (V := T3.setTop (mkF m 15 #[.val (.ref o0), .val (.double (4607182418800017408 : UInt64)), .second, .unset, .unset, .unset, .unset, .unset] [(.long (own_max (1 : Int64) (2 : Int64)))])) st3 ?_
  refine own_by (V := T3.setTop (mkF m 16 #[.val (.ref o0), .val (.double (4607182418800017408 : UInt64)), .second, .val (.long (own_max (1 : Int64) (2 : Int64))), .second, .unset, .unset, .unset] [])) (fun t k => XS.lstoreN X3.here hx rfl (hb hby own_d_prog_5_5_15) rfl (l' := #[.val (.ref o0), .val (.double (4607182418800017408 : UInt64)), .second, .val (.long (own_max (1 : Int64) (2 : Int64))), .second, .unset, .unset, .unset]) rfl k) ?_
  refine own_by (V := T3.setTop (mkF m 17 #[.val (.ref o0), .val (.double (4607182418800017408 : UInt64)), .second, .val (.long (own_max (1 : Int64) (2 : Int64))), .second, .unset, .unset, .unset] [(.long (0 : Int64))])) (fun t k => XS.lconst X3.here hx rfl (hb hby own_d_prog_5_5_16) k) ?_
  refine own_by (V := T3.setTop (mkF m 19 #[.val (.ref o0), .val (.double (4607182418800017408 : UInt64)), .second, .val (.long (own_max (1 : Int64) (2 : Int64))), .second, .val (.long (0 : Int64)), .second, .unset] [])) (fun t k => XS.lstore X3.here hx rfl (hb hby own_d_prog_5_5_17) rfl (l' := #[.val (.ref o0), .val (.double (4607182418800017408 : UInt64)), .second, .val (.long (own_max (1 : Int64) (2 : Int64))), .second, .val (.long (0 : Int64)), .second, .unset]) rfl k) ?_
  refine own_by (V := T3.setTop (mkF m 20 #[.val (.ref o0), .val (.double (4607182418800017408 : UInt64)), .second, .val (.long (own_max (1 : Int64) (2 : Int64))), .second, .val (.long (0 : Int64)), .second, .unset] [(.int (0 : Int32))])) (fun t k => XS.iconst X3.here hx rfl (hb hby own_d_prog_5_5_19) k) ?_
  refine own_by (V := T3.setTop (mkF m 22 #[.val (.ref o0), .val (.double (4607182418800017408 : UInt64)), .second, .val (.long (own_max (1 : Int64) (2 : Int64))), .second, .val (.long (0 : Int64)), .second, .val (.int (0 : Int32))] [])) (fun t k => XS.istore X3.here hx rfl (hb hby own_d_prog_5_5_20) rfl (l' := #[.val (.ref o0), .val (.double (4607182418800017408 : UInt64)), .second, .val (.long (own_max (1 : Int64) (2 : Int64))), .second, .val (.long (0 : Int64)), .second, .val (.int (0 : Int32))]) rfl k) ?_
  have J4 : ∀ (fu : Nat) (T4 : State) (l4 : List Loc) (iv : Int32) (bv : Int64) (ix : Nat) (X4 : Stand p l e ({ frames := 7, cells := 0, slots := 0, locals := 132 } : Room) s m #[(.ref o0), (.double (4607182418800017408 : UInt64))] below meth c T4 l4 0 0) (e4 : T4.heap = h0) (N4 : Fr n0 l4) (hix : iv.toInt = (ix : Int)) (hfu : ix + fu = 7296) (hbv : bv.toInt = own_pre f0 ix) (hlt : own_pre f0 ix < 2), own_Ends p e below s (own_Q_own_rpct_2_2 Z o0 b0 k0 f0 h0 n0) ({ frames := 7, cells := 0, slots := 0, locals := 132 } : Room).cells ({ frames := 7, cells := 0, slots := 0, locals := 132 } : Room).slots (T4.setTop (mkF m 22 #[.val (.ref o0), .val (.double (4607182418800017408 : UInt64)), .second, .val (.long (2 : Int64)), .second, .val (.long bv), .second, .val (.int iv)] [])) := by
    intro fu
    induction fu with
    | zero => intro T4 l4 iv bv ix X4 e4 N4 hix hfu hbv hlt; have q : ix = 7296 := (by omega); rw [q, hsum] at hlt; exact absurd hlt (by decide)
    | succ fu ih =>
      intro T4 l4 iv bv ix X4 e4 N4 hix hfu hbv hlt
      have hbk : own_bk iv := ⟨by omega, by omega⟩
      have htn := own_turn hsm (by decide) hix hbv hlt
      refine own_by (V := T4.setTop (mkF m 23 #[.val (.ref o0), .val (.double (4607182418800017408 : UInt64)), .second, .val (.long (2 : Int64)), .second, .val (.long bv), .second, .val (.int iv)] [(.ref o0)])) (fun t k => XS.aloadN X4.here hx rfl (hb hby own_d_prog_5_5_22) rfl rfl k) ?_
      obtain ⟨T5, X5, e5, st5⟩ := getF X4 hx hZ hown (host := "") (Or.inl (hw _ (List.mem_of_getElem? (i := 26) rfl))) Via.refl e4 Ft0 (g := (mkF m 23 #[.val (.ref o0), .val (.double (4607182418800017408 : UInt64)), .second, .val (.long (2 : Int64)), .second, .val (.long bv), .second, .val (.int iv)] [(.ref o0)])) rfl rfl (hb hby own_d_prog_5_5_23)
      refine own_by (V := T5.setTop (mkF m 26 #[.val (.ref o0), .val (.double (4607182418800017408 : UInt64)), .second, .val (.long (2 : Int64)), .second, .val (.long bv), .second, .val (.int iv)] [(.long (2 : Int64))])) st5 ?_
      refine own_by (V := T5.setTop (mkF m 27 #[.val (.ref o0), .val (.double (4607182418800017408 : UInt64)), .second, .val (.long (2 : Int64)), .second, .val (.long bv), .second, .val (.int iv)] [(.long (0 : Int64)), (.long (2 : Int64))])) (fun t k => XS.lconst X5.here hx rfl (hb hby own_d_prog_5_5_26) k) ?_
      refine own_by (V := T5.setTop (mkF m 28 #[.val (.ref o0), .val (.double (4607182418800017408 : UInt64)), .second, .val (.long (2 : Int64)), .second, .val (.long bv), .second, .val (.int iv)] [(.int (lcmpW (2 : Int64) (0 : Int64)))])) (fun t k => XS.lcmp X5.here hx rfl (hb hby own_d_prog_5_5_27) rfl k) ?_
      have hb28_6 : ((0 : Int32) < (lcmpW (2 : Int64) (0 : Int64))) := by decide
      refine own_by (V := T5.setTop (mkF m 31 #[.val (.ref o0), .val (.double (4607182418800017408 : UInt64)), .second, .val (.long (2 : Int64)), .second, .val (.long bv), .second, .val (.int iv)] [])) (fun t k => XS.ifNo X5.here hx rfl (hb hby own_d_prog_5_5_28) rfl ((if0 _ _).trans (tlt hb28_6).2.2.2) k) ?_
      refine own_by (V := T5.setTop (mkF m 33 #[.val (.ref o0), .val (.double (4607182418800017408 : UInt64)), .second, .val (.long (2 : Int64)), .second, .val (.long bv), .second, .val (.int iv)] [(.long bv)])) (fun t k => XS.lload X5.here hx rfl (hb hby own_d_prog_5_5_31) rfl  k) ?_
      refine own_by (V := T5.setTop (mkF m 34 #[.val (.ref o0), .val (.double (4607182418800017408 : UInt64)), .second, .val (.long (2 : Int64)), .second, .val (.long bv), .second, .val (.int iv)] [(.ref o0), (.long bv)])) (fun t k => XS.aloadN X5.here hx rfl (hb hby own_d_prog_5_5_33) rfl rfl k) ?_
      obtain ⟨T7, X7, e7, st7⟩ := getF X5 hx hZ hown (host := "") (Or.inl (hw _ (List.mem_of_getElem? (i := 11) rfl))) Via.refl e5 Fc0 (g := (mkF m 34 #[.val (.ref o0), .val (.double (4607182418800017408 : UInt64)), .second, .val (.long (2 : Int64)), .second, .val (.long bv), .second, .val (.int iv)] [(.ref o0), (.long bv)])) rfl rfl (hb hby own_d_prog_5_5_34)
      refine own_by (V := T7.setTop (mkF m 37 #[.val (.ref o0), .val (.double (4607182418800017408 : UInt64)), .second, .val (.long (2 : Int64)), .second, .val (.long bv), .second, .val (.int iv)] [(.ref b0), (.long bv)])) st7 ?_
      refine own_by (V := T7.setTop (mkF m 39 #[.val (.ref o0), .val (.double (4607182418800017408 : UInt64)), .second, .val (.long (2 : Int64)), .second, .val (.long bv), .second, .val (.int iv)] [(.int iv), (.ref b0), (.long bv)])) (fun t k => XS.iload X7.here hx rfl (hb hby own_d_prog_5_5_37) rfl  k) ?_
      obtain ⟨cl8, Ar8, qa8, Sa8, Ha8⟩ := id A0
      refine own_by (V := T7.setTop (mkF m 40 #[.val (.ref o0), .val (.double (4607182418800017408 : UInt64)), .second, .val (.long (2 : Int64)), .second, .val (.long bv), .second, .val (.int iv)] [(.long (f0 iv.toNatClampNeg)), (.long bv)])) (X7.laload hx (j := iv) (v := .long (f0 iv.toNatClampNeg)) (by rw [e7]; exact Ar8.1) (State.isArrayOf_alike hZ.alike Ar8.2.1) Ar8.2.2 (own_inb Sa8 hbk) (Ha8 _ (own_nat hbk).1) (g := (mkF m 39 #[.val (.ref o0), .val (.double (4607182418800017408 : UInt64)), .second, .val (.long (2 : Int64)), .second, .val (.long bv), .second, .val (.int iv)] [(.int iv), (.ref b0), (.long bv)])) rfl rfl (hb hby own_d_prog_5_5_39)) ?_
      refine own_by (V := T7.setTop (mkF m 41 #[.val (.ref o0), .val (.double (4607182418800017408 : UInt64)), .second, .val (.long (2 : Int64)), .second, .val (.long bv), .second, .val (.int iv)] [(.long (bv + (f0 iv.toNatClampNeg)))])) (fun t k => XS.ladd X7.here hx rfl (hb hby own_d_prog_5_5_40) rfl k) ?_
      refine own_by (V := T7.setTop (mkF m 42 #[.val (.ref o0), .val (.double (4607182418800017408 : UInt64)), .second, .val (.long (2 : Int64)), .second, .val (.long bv), .second, .val (.int iv)] [(.long (2 : Int64)), (.long (bv + (f0 iv.toNatClampNeg)))])) (fun t k => XS.lloadN X7.here hx rfl (hb hby own_d_prog_5_5_41) rfl  k) ?_
      refine own_by (V := T7.setTop (mkF m 43 #[.val (.ref o0), .val (.double (4607182418800017408 : UInt64)), .second, .val (.long (2 : Int64)), .second, .val (.long bv), .second, .val (.int iv)] [(.int (lcmpW (bv + (f0 iv.toNatClampNeg)) (2 : Int64)))])) (fun t k => XS.lcmp X7.here hx rfl (hb hby own_d_prog_5_5_42) rfl k) ?_
      by_cases hb43_9 : (lcmpW (bv + (f0 iv.toNatClampNeg)) (2 : Int64)) < (0 : Int32)
      · refine own_by (V := T7.setTop (mkF m 46 #[.val (.ref o0), .val (.double (4607182418800017408 : UInt64)), .second, .val (.long (2 : Int64)), .second, .val (.long bv), .second, .val (.int iv)] [])) (fun t k => XS.ifNo X7.here hx rfl (hb hby own_d_prog_5_5_43) rfl ((if0 _ _).trans (tlt hb43_9).2.1) k) ?_
        refine own_by (V := T7.setTop (mkF m 48 #[.val (.ref o0), .val (.double (4607182418800017408 : UInt64)), .second, .val (.long (2 : Int64)), .second, .val (.long bv), .second, .val (.int iv)] [(.long bv)])) (fun t k => XS.lload X7.here hx rfl (hb hby own_d_prog_5_5_46) rfl  k) ?_
        refine own_by (V := T7.setTop (mkF m 49 #[.val (.ref o0), .val (.double (4607182418800017408 : UInt64)), .second, .val (.long (2 : Int64)), .second, .val (.long bv), .second, .val (.int iv)] [(.ref o0), (.long bv)])) (fun t k => XS.aloadN X7.here hx rfl (hb hby own_d_prog_5_5_48) rfl rfl k) ?_
        obtain ⟨T10, X10, e10, st10⟩ := getF X7 hx hZ hown (host := "") (Or.inl (hw _ (List.mem_of_getElem? (i := 11) rfl))) Via.refl e7 Fc0 (g := (mkF m 49 #[.val (.ref o0), .val (.double (4607182418800017408 : UInt64)), .second, .val (.long (2 : Int64)), .second, .val (.long bv), .second, .val (.int iv)] [(.ref o0), (.long bv)])) rfl rfl (hb hby own_d_prog_5_5_49)
        refine own_by (V := T10.setTop (mkF m 52 #[.val (.ref o0), .val (.double (4607182418800017408 : UInt64)), .second, .val (.long (2 : Int64)), .second, .val (.long bv), .second, .val (.int iv)] [(.ref b0), (.long bv)])) st10 ?_
        refine own_by (V := T10.setTop (mkF m 54 #[.val (.ref o0), .val (.double (4607182418800017408 : UInt64)), .second, .val (.long (2 : Int64)), .second, .val (.long bv), .second, .val (.int iv)] [(.int iv), (.ref b0), (.long bv)])) (fun t k => XS.iload X10.here hx rfl (hb hby own_d_prog_5_5_52) rfl  k) ?_
        obtain ⟨cl11, Ar11, qa11, Sa11, Ha11⟩ := id A0
        refine own_by (V := T10.setTop (mkF m 55 #[.val (.ref o0), .val (.double (4607182418800017408 : UInt64)), .second, .val (.long (2 : Int64)), .second, .val (.long bv), .second, .val (.int iv)] [(.long (f0 iv.toNatClampNeg)), (.long bv)])) (X10.laload hx (j := iv) (v := .long (f0 iv.toNatClampNeg)) (by rw [e10]; exact Ar11.1) (State.isArrayOf_alike hZ.alike Ar11.2.1) Ar11.2.2 (own_inb Sa11 hbk) (Ha11 _ (own_nat hbk).1) (g := (mkF m 54 #[.val (.ref o0), .val (.double (4607182418800017408 : UInt64)), .second, .val (.long (2 : Int64)), .second, .val (.long bv), .second, .val (.int iv)] [(.int iv), (.ref b0), (.long bv)])) rfl rfl (hb hby own_d_prog_5_5_54)) ?_
        refine own_by (V := T10.setTop (mkF m 56 #[.val (.ref o0), .val (.double (4607182418800017408 : UInt64)), .second, .val (.long (2 : Int64)), .second, .val (.long bv), .second, .val (.int iv)] [(.long (bv + (f0 iv.toNatClampNeg)))])) (fun t k => XS.ladd X10.here hx rfl (hb hby own_d_prog_5_5_55) rfl k) ?_
        refine own_by (V := T10.setTop (mkF m 58 #[.val (.ref o0), .val (.double (4607182418800017408 : UInt64)), .second, .val (.long (2 : Int64)), .second, .val (.long (bv + (f0 iv.toNatClampNeg))), .second, .val (.int iv)] [])) (fun t k => XS.lstore X10.here hx rfl (hb hby own_d_prog_5_5_56) rfl (l' := #[.val (.ref o0), .val (.double (4607182418800017408 : UInt64)), .second, .val (.long (2 : Int64)), .second, .val (.long (bv + (f0 iv.toNatClampNeg))), .second, .val (.int iv)]) rfl k) ?_
        refine own_by (V := T10.setTop (mkF m 61 #[.val (.ref o0), .val (.double (4607182418800017408 : UInt64)), .second, .val (.long (2 : Int64)), .second, .val (.long (bv + (f0 iv.toNatClampNeg))), .second, .val (.int (iv + (1 : Int32)))] [])) (fun t k => XS.iinc X10.here hx rfl (hb hby own_d_prog_5_5_58) rfl (l' := #[.val (.ref o0), .val (.double (4607182418800017408 : UInt64)), .second, .val (.long (2 : Int64)), .second, .val (.long (bv + (f0 iv.toNatClampNeg))), .second, .val (.int (iv + (1 : Int32)))]) rfl k) ?_
        refine own_by (V := T10.setTop (mkF m 22 #[.val (.ref o0), .val (.double (4607182418800017408 : UInt64)), .second, .val (.long (2 : Int64)), .second, .val (.long (bv + (f0 iv.toNatClampNeg))), .second, .val (.int (iv + (1 : Int32)))] [])) (fun t k => XS.goto X10.here hx rfl (pc0 := 61) (pc' := 22) rfl (hb hby own_d_prog_5_5_61) (by decide) (by decide) k) ?_
        exact ih T10 _ (iv + (1 : Int32)) (bv + (f0 iv.toNatClampNeg)) (ix + 1) (X10.more (by decide) (by decide)) e10 N4 (own_ivinc hix (by omega)) (by omega) htn (by have q := Int64.lt_iff_toInt_lt.mp ((own_lc _ _).1.mp hb43_9); rw [htn] at q; exact q)
      · refine own_by (V := T7.setTop (mkF m 64 #[.val (.ref o0), .val (.double (4607182418800017408 : UInt64)), .second, .val (.long (2 : Int64)), .second, .val (.long bv), .second, .val (.int iv)] [])) (fun t k => XS.ifYes X7.here hx rfl (pc0 := 43) (pc' := 64) rfl (hb hby own_d_prog_5_5_43) rfl ((if0 _ _).trans (flt hb43_9).2.1) (by decide) (by decide) k) ?_
        have hat : own_at f0 2 iv := ⟨hbk, by rw [own_natx hix]; exact hlt, by rw [own_natx hix, ← htn]; exact Int.not_lt.mp fun u => hb43_9 ((own_lc _ _).1.mpr (Int64.lt_iff_toInt_lt.mpr u))⟩
        refine own_by (V := T7.setTop (mkF m 65 #[.val (.ref o0), .val (.double (4607182418800017408 : UInt64)), .second, .val (.long (2 : Int64)), .second, .val (.long bv), .second, .val (.int iv)] [(.ref o0)])) (fun t k => XS.aloadN X7.here hx rfl (hb hby own_d_prog_5_5_64) rfl rfl k) ?_
        obtain ⟨T12, X12, e12, st12⟩ := getF X7 hx hZ hown (host := "") (Or.inl (hw _ (List.mem_of_getElem? (i := 26) rfl))) Via.refl e7 Ft0 (g := (mkF m 65 #[.val (.ref o0), .val (.double (4607182418800017408 : UInt64)), .second, .val (.long (2 : Int64)), .second, .val (.long bv), .second, .val (.int iv)] [(.ref o0)])) rfl rfl (hb hby own_d_prog_5_5_65)
        refine own_by (V := T12.setTop (mkF m 68 #[.val (.ref o0), .val (.double (4607182418800017408 : UInt64)), .second, .val (.long (2 : Int64)), .second, .val (.long bv), .second, .val (.int iv)] [(.long (2 : Int64))])) st12 ?_
        refine own_by (V := T12.setTop (mkF m 69 #[.val (.ref o0), .val (.double (4607182418800017408 : UInt64)), .second, .val (.long (2 : Int64)), .second, .val (.long bv), .second, .val (.int iv)] [(.long (0 : Int64)), (.long (2 : Int64))])) (fun t k => XS.lconst X12.here hx rfl (hb hby own_d_prog_5_5_68) k) ?_
        refine own_by (V := T12.setTop (mkF m 70 #[.val (.ref o0), .val (.double (4607182418800017408 : UInt64)), .second, .val (.long (2 : Int64)), .second, .val (.long bv), .second, .val (.int iv)] [(.int (lcmpW (2 : Int64) (0 : Int64)))])) (fun t k => XS.lcmp X12.here hx rfl (hb hby own_d_prog_5_5_69) rfl k) ?_
        have hb70_13 : ((0 : Int32) < (lcmpW (2 : Int64) (0 : Int64))) := by decide
        refine own_by (V := T12.setTop (mkF m 73 #[.val (.ref o0), .val (.double (4607182418800017408 : UInt64)), .second, .val (.long (2 : Int64)), .second, .val (.long bv), .second, .val (.int iv)] [])) (fun t k => XS.ifNo X12.here hx rfl (hb hby own_d_prog_5_5_70) rfl ((if0 _ _).trans (tlt hb70_13).2.2.2) k) ?_
        refine own_by (V := T12.setTop (mkF m 75 #[.val (.ref o0), .val (.double (4607182418800017408 : UInt64)), .second, .val (.long (2 : Int64)), .second, .val (.long bv), .second, .val (.int iv)] [(.int iv)])) (fun t k => XS.iload X12.here hx rfl (hb hby own_d_prog_5_5_73) rfl  k) ?_
        obtain ⟨_, _, ⟨T14, Lq14, kq14, nq14⟩, -, X14, ⟨Lc14, hQ14, lq14, yq14, zq14⟩, st14⟩ := Jvm.LawKit.callS X12 hx (y := (⟨"com/example/nocord/nocord/bench/Latencies", "middle", "(I)J"⟩ : MethodName)) hown (mvT hZ (hw _ (List.mem_of_getElem? (i := 53) rfl))) (mvT hZ (hw _ (List.mem_of_getElem? (i := 54) rfl))) (mvT hZ (hw _ (List.mem_of_getElem? (i := 3) rfl))) (mvT hZ (hw _ (List.mem_of_getElem? (i := 55) rfl))) (by decide) (backOf (W := 0) (own_rmid l Z a0 hw [] iv h0 n0) hZ (hw _ (List.mem_of_getElem? (i := 55) rfl)) (hw _ (List.mem_of_getElem? (i := 3) rfl)) (by decide) (by decide)) (g := (mkF m 75 #[.val (.ref o0), .val (.double (4607182418800017408 : UInt64)), .second, .val (.long (2 : Int64)), .second, .val (.long bv), .second, .val (.int iv)] [(.int iv)])) rfl (by rw [hml]; rfl) (argsL := [(.int iv)]) (rest := []) (lenOf own_pd5 rfl) rfl (by show 2 * 0 + _ ≤ _; exact Nat.le_of_eq rfl) (hb hby own_d_prog_5_5_75) (fun _ _ => ⟨rfl, e12, (by decide : 0 + 0 ≤ _), (by decide : 0 + 0 ≤ _)⟩)
        dsimp only [Pt.U, Pt.locs, Pt.cells, Pt.slots] at X14 lq14 yq14 zq14 st14 hQ14
        subst lq14 yq14 zq14
        obtain ⟨rfl, N14q, e14⟩ := hQ14
        have N14 := Fr.app N4 N14q
        refine own_by (V := T14.setTop (mkF m 78 #[.val (.ref o0), .val (.double (4607182418800017408 : UInt64)), .second, .val (.long (2 : Int64)), .second, .val (.long bv), .second, .val (.int iv)] [(.long (own_mid iv))])) st14 ?_
        refine own_by (V := T14.setTop (mkF m 82 #[.val (.ref o0), .val (.double (4607182418800017408 : UInt64)), .second, .val (.long (2 : Int64)), .second, .val (.long bv), .second, .val (.int iv)] [(.long (own_mid iv))])) (fun t k => XS.goto X14.here hx rfl (pc0 := 78) (pc' := 82) rfl (hb hby own_d_prog_5_5_78) (by decide) (by decide) k) ?_
        refine own_retL X14 hx hlk e14 Bd.returns (hb hby own_d_prog_5_5_82) ?_ (by decide) (by decide)
        exact ⟨iv, rfl, N14, rfl, hat⟩
  rw [show (own_max (1 : Int64) (2 : Int64)) = (2 : Int64) from by decide +kernel]
  exact J4 7296 T3 _ (0 : Int32) (0 : Int64) 0 (X3.more (by decide) (by decide)) e3 N3 rfl rfl rfl (by show (0 : Int) < 2; decide)
def own_Q_own_rpct_0_3 (Z : State) (o0 : Addr) (b0 : Addr) (k0 : ClassId) (f0 : Nat → Int64) (h0 : Heap) (n0 : Nat) : Option Value → Heap → List Loc → Prop := fun v h L => ∃ (ix : Int32), v = some (.long (own_mid ix)) ∧ Fr n0 L ∧ h = h0 ∧ own_at f0 1 ix
theorem own_ef_own_rpct_0_3 (m : MethodId) (x0 : Addr) : entryFrame m #[(.ref x0), (.double (0 : UInt64))] 8 = mkF m 0 #[.val (.ref x0), .val (.double (0 : UInt64)), .second, .unset, .unset, .unset, .unset, .unset] [] := by first | (simp [entryFrame, mkF, argsToLocals, Value.category]; done) | rfl
set_option maxRecDepth 65536 in
set_option maxHeartbeats 40000000 in
theorem own_rpct_0_3 (l : Launch) (Z : State) (a0 : Array Value) (hw : ∀ d ∈ tables_1, d.before a0 Z = true) (ws : List Jvm.Cond) (o0 : Addr) (b0 : Addr) (k0 : ClassId) (f0 : Nat → Int64) (h0 : Heap) (n0 : Nat) (Z0 : n0 ≤ h0.size) (Fc0 : Fld Z h0 o0 "com/example/nocord/nocord/bench/Latencies" "counts" "[J" (.ref b0)) (Ft0 : Fld Z h0 o0 "com/example/nocord/nocord/bench/Latencies" "total" "J" (.long (3 : Int64))) (A0 : own_Arf Z h0 b0 k0 f0) (hsm : own_small f0) (hsum : own_pre f0 7296 = 3) (SA : Sta Z h0 "java/lang/StrictMath" "$assertionsDisabled" "Z" (.int (1 : Int32))) :
    MetFree l (⟨"com/example/nocord/nocord/bench/Latencies", "percentile", "(D)J"⟩ : MethodName) (head1 (Jvm.Cond.code (⟨"com/example/nocord/nocord/bench/Latencies", "percentile", "(D)J"⟩ : MethodName) prog_5_method_5_code 8 (some .long) :: ws) ({ frames := 7, cells := 0, slots := 0, locals := 132 } : Room)) (fun a U => a = #[(.ref o0), (.double (0 : UInt64))] ∧ Z.Warmed39 U.vm ∧ U.heap = h0) (fun _ _ _ _ _ => True) (fun _ U o U' => ∃ v L, o = .returned v ∧ (own_Q_own_rpct_0_3 Z o0 b0 k0 f0 h0 n0) v U'.heap L ∧ FrameEnd U o U' L ({ frames := 7, cells := 0, slots := 0, locals := 132 } : Room).cells ({ frames := 7, cells := 0, slots := 0, locals := 132 } : Room).slots) := by
  refine MetFree.of_bodySF (plainFor_of_name own_pn2) hisR ?_
  intro p e s m args below meth c s₁ Bd hml0 hP hK
  obtain ⟨rfl, hZ, hh⟩ := hP
  have hx := Bd.exec
  have hby := Bd.bytes
  have hml : c.maxLocals = 8 := hml0
  have hown : s.vm.findClass "com/example/nocord/nocord/bench/Latencies" = some m.cls := findClass_of_methodNamed Bd.named
  have hnm := (name_of_methodNamed Bd.named Bd.method).1
  have hlk : meth.locks = false := BodyLoose.notSynchronized Bd
  have X0 : Stand p l e ({ frames := 7, cells := 0, slots := 0, locals := 132 } : Room) s m #[(.ref o0), (.double (0 : UInt64))] below meth c s₁ [] 0 0 := Stand.of_body Bd
  have e0 : s₁.heap = h0 := by rw [← hh, Bd.state]; rfl
  have N0 := Fr.nil n0
  show own_Ends p e below s (own_Q_own_rpct_0_3 Z o0 b0 k0 f0 h0 n0) ({ frames := 7, cells := 0, slots := 0, locals := 132 } : Room).cells ({ frames := 7, cells := 0, slots := 0, locals := 132 } : Room).slots _
  refine own_by (V := s₁.setTop (mkF m 0 #[.val (.ref o0), .val (.double (0 : UInt64)), .second, .unset, .unset, .unset, .unset, .unset] [])) (fun t k => castTop (own_ef_own_rpct_0_3 m o0) k) ?_
  refine own_by (V := s₁.setTop (mkF m 1 #[.val (.ref o0), .val (.double (0 : UInt64)), .second, .unset, .unset, .unset, .unset, .unset] [(.long (1 : Int64))])) (fun t k => XS.lconst X0.here hx rfl (hb hby own_d_prog_5_5_0) k) ?_
  refine own_by (V := s₁.setTop (mkF m 2 #[.val (.ref o0), .val (.double (0 : UInt64)), .second, .unset, .unset, .unset, .unset, .unset] [(.double (0 : UInt64)), (.long (1 : Int64))])) (fun t k => XS.dloadN X0.here hx rfl (hb hby own_d_prog_5_5_1) rfl  k) ?_
  refine own_by (V := s₁.setTop (mkF m 3 #[.val (.ref o0), .val (.double (0 : UInt64)), .second, .unset, .unset, .unset, .unset, .unset] [(.ref o0), (.double (0 : UInt64)), (.long (1 : Int64))])) (fun t k => XS.aloadN X0.here hx rfl (hb hby own_d_prog_5_5_2) rfl rfl k) ?_
  obtain ⟨T1, X1, e1, st1⟩ := getF X0 hx hZ hown (host := "") (Or.inl (hw _ (List.mem_of_getElem? (i := 26) rfl))) Via.refl e0 Ft0 (g := (mkF m 3 #[.val (.ref o0), .val (.double (0 : UInt64)), .second, .unset, .unset, .unset, .unset, .unset] [(.ref o0), (.double (0 : UInt64)), (.long (1 : Int64))])) rfl rfl (hb hby own_d_prog_5_5_3)
  refine own_by (V := T1.setTop (mkF m 6 #[.val (.ref o0), .val (.double (0 : UInt64)), .second, .unset, .unset, .unset, .unset, .unset] [(.long (3 : Int64)), (.double (0 : UInt64)), (.long (1 : Int64))])) st1 ?_
  refine own_by (V := T1.setTop (mkF m 7 #[.val (.ref o0), .val (.double (0 : UInt64)), .second, .unset, .unset, .unset, .unset, .unset] [(.double (4613937818241073152 : UInt64)), (.double (0 : UInt64)), (.long (1 : Int64))])) (fun t k => XS.l2dS X1.here hx rfl (hb hby own_d_prog_5_5_6) rfl (v := (4613937818241073152 : UInt64)) (by decide +kernel) k) ?_
  refine own_by (V := T1.setTop (mkF m 8 #[.val (.ref o0), .val (.double (0 : UInt64)), .second, .unset, .unset, .unset, .unset, .unset] [(.double (0 : UInt64)), (.long (1 : Int64))])) (fun t k => XS.dmulS X1.here hx rfl (hb hby own_d_prog_5_5_7) rfl (by unfold Jvm.Free.Fl.NoNaN64; decide +kernel) (v := (0 : UInt64)) (by decide +kernel) k) ?_
  obtain ⟨T2, X2, e2, st2⟩ := own_ceilZ X1 hx (r := 0) e1 hown (mvT hZ (hw _ (List.mem_of_getElem? (i := 33) rfl))) (mvT hZ (hw _ (List.mem_of_getElem? (i := 34) rfl))) (mvT hZ (hw _ (List.mem_of_getElem? (i := 20) rfl))) (mvT hZ (hw _ (List.mem_of_getElem? (i := 35) rfl))) (mvT hZ (hw _ (List.mem_of_getElem? (i := 38) rfl))) (mvT hZ (hw _ (List.mem_of_getElem? (i := 39) rfl))) (own_staS hZ SA) (by decide +kernel) own_d_jdk_128_16_9 (fun Y a1 a2 a3 a4 a5 a6 => own_sc_v0 hw hZ Y hx a1 a2 a3 a4 a5 a6) (g := (mkF m 8 #[.val (.ref o0), .val (.double (0 : UInt64)), .second, .unset, .unset, .unset, .unset, .unset] [(.double (0 : UInt64)), (.long (1 : Int64))])) rfl (by rw [hml]; rfl) (rest := [(.long (1 : Int64))]) rfl (hb hby own_d_prog_5_5_8) (by decide) (by show 2 * 0 + 2 + 130 ≤ _; decide)
  refine own_by (V := T2.setTop (mkF m 11 #[.val (.ref o0), .val (.double (0 : UInt64)), .second, .unset, .unset, .unset, .unset, .unset] [(.double (0 : UInt64)), (.long (1 : Int64))])) st2 ?_
  refine own_by (V := T2.setTop (mkF m 12 #[.val (.ref o0), .val (.double (0 : UInt64)), .second, .unset, .unset, .unset, .unset, .unset] [(.long (0 : Int64)), (.long (1 : Int64))])) (fun t k => XS.d2lS X2.here hx rfl (hb hby own_d_prog_5_5_11) rfl (v := (0 : Int64)) (by decide +kernel) k) ?_
  obtain ⟨_, _, ⟨T3, Lq3, kq3, nq3⟩, -, X3, ⟨Lc3, hQ3, lq3, yq3, zq3⟩, st3⟩ := Jvm.LawKit.callS X2 hx (y := (⟨"java/lang/Math", "max", "(JJ)J"⟩ : MethodName)) hown (mvT hZ (hw _ (List.mem_of_getElem? (i := 18) rfl))) (mvT hZ (hw _ (List.mem_of_getElem? (i := 19) rfl))) (mvT hZ (hw _ (List.mem_of_getElem? (i := 20) rfl))) (mvT hZ (hw _ (List.mem_of_getElem? (i := 21) rfl))) (by decide) (backOf (W := 0) (own_rmax l Z a0 hw [] (1 : Int64) (0 : Int64) h0 n0) hZ (hw _ (List.mem_of_getElem? (i := 21) rfl)) (hw _ (List.mem_of_getElem? (i := 20) rfl)) (by decide) (by decide)) (g := (mkF m 12 #[.val (.ref o0), .val (.double (0 : UInt64)), .second, .unset, .unset, .unset, .unset, .unset] [(.long (0 : Int64)), (.long (1 : Int64))])) rfl (by rw [hml]; rfl) (argsL := [(.long (1 : Int64)), (.long (0 : Int64))]) (rest := []) (lenOf own_pd2 rfl) rfl (by show 2 * 0 + _ ≤ _; exact Nat.le_of_eq rfl) (hb hby own_d_prog_5_5_12) (fun _ _ => ⟨rfl, e2, (by decide : 0 + 0 ≤ _), (by decide : 0 + 0 ≤ _)⟩)
  dsimp only [Pt.U, Pt.locs, Pt.cells, Pt.slots] at X3 lq3 yq3 zq3 st3 hQ3
  subst lq3 yq3 zq3
  obtain ⟨rfl, N3q, e3⟩ := hQ3
  have N3 := Fr.app N0 N3q
  refine own_by (V := T3.setTop (mkF m 15 #[.val (.ref o0), .val (.double (0 : UInt64)), .second, .unset, .unset, .unset, .unset, .unset] [(.long (own_max (1 : Int64) (0 : Int64)))])) st3 ?_
  refine own_by (V := T3.setTop (mkF m 16 #[.val (.ref o0), .val (.double (0 : UInt64)), .second, .val (.long (own_max (1 : Int64) (0 : Int64))), .second, .unset, .unset, .unset] [])) (fun t k => XS.lstoreN X3.here hx rfl (hb hby own_d_prog_5_5_15) rfl (l' := #[.val (.ref o0), .val (.double (0 : UInt64)), .second, .val (.long (own_max (1 : Int64) (0 : Int64))), .second, .unset, .unset, .unset]) rfl k) ?_
  refine own_by (V := T3.setTop (mkF m 17 #[.val (.ref o0), .val (.double (0 : UInt64)), .second, .val (.long (own_max (1 : Int64) (0 : Int64))), .second, .unset, .unset, .unset] [(.long (0 : Int64))])) (fun t k => XS.lconst X3.here hx rfl (hb hby own_d_prog_5_5_16) k) ?_
  refine own_by (V := T3.setTop (mkF m 19 #[.val (.ref o0), .val (.double (0 : UInt64)), .second, .val (.long (own_max (1 : Int64) (0 : Int64))), .second, .val (.long (0 : Int64)), .second, .unset] [])) (fun t k => XS.lstore X3.here hx rfl (hb hby own_d_prog_5_5_17) rfl (l' := #[.val (.ref o0), .val (.double (0 : UInt64)), .second, .val (.long (own_max (1 : Int64) (0 : Int64))), .second, .val (.long (0 : Int64)), .second, .unset]) rfl k) ?_
  refine own_by (V := T3.setTop (mkF m 20 #[.val (.ref o0), .val (.double (0 : UInt64)), .second, .val (.long (own_max (1 : Int64) (0 : Int64))), .second, .val (.long (0 : Int64)), .second, .unset] [(.int (0 : Int32))])) (fun t k => XS.iconst X3.here hx rfl (hb hby own_d_prog_5_5_19) k) ?_
  refine own_by (V := T3.setTop (mkF m 22 #[.val (.ref o0), .val (.double (0 : UInt64)), .second, .val (.long (own_max (1 : Int64) (0 : Int64))), .second, .val (.long (0 : Int64)), .second, .val (.int (0 : Int32))] [])) (fun t k => XS.istore X3.here hx rfl (hb hby own_d_prog_5_5_20) rfl (l' := #[.val (.ref o0), .val (.double (0 : UInt64)), .second, .val (.long (own_max (1 : Int64) (0 : Int64))), .second, .val (.long (0 : Int64)), .second, .val (.int (0 : Int32))]) rfl k) ?_
  have J4 : ∀ (fu : Nat) (T4 : State) (l4 : List Loc) (iv : Int32) (bv : Int64) (ix : Nat) (X4 : Stand p l e ({ frames := 7, cells := 0, slots := 0, locals := 132 } : Room) s m #[(.ref o0), (.double (0 : UInt64))] below meth c T4 l4 0 0) (e4 : T4.heap = h0) (N4 : Fr n0 l4) (hix : iv.toInt = (ix : Int)) (hfu : ix + fu = 7296) (hbv : bv.toInt = own_pre f0 ix) (hlt : own_pre f0 ix < 1), own_Ends p e below s (own_Q_own_rpct_0_3 Z o0 b0 k0 f0 h0 n0) ({ frames := 7, cells := 0, slots := 0, locals := 132 } : Room).cells ({ frames := 7, cells := 0, slots := 0, locals := 132 } : Room).slots (T4.setTop (mkF m 22 #[.val (.ref o0), .val (.double (0 : UInt64)), .second, .val (.long (1 : Int64)), .second, .val (.long bv), .second, .val (.int iv)] [])) := by
    intro fu
    induction fu with
    | zero => intro T4 l4 iv bv ix X4 e4 N4 hix hfu hbv hlt; have q : ix = 7296 := (by omega); rw [q, hsum] at hlt; exact absurd hlt (by decide)
    | succ fu ih =>
      intro T4 l4 iv bv ix X4 e4 N4 hix hfu hbv hlt
      have hbk : own_bk iv := ⟨by omega, by omega⟩
      have htn := own_turn hsm (by decide) hix hbv hlt
      refine own_by (V := T4.setTop (mkF m 23 #[.val (.ref o0), .val (.double (0 : UInt64)), .second, .val (.long (1 : Int64)), .second, .val (.long bv), .second, .val (.int iv)] [(.ref o0)])) (fun t k => XS.aloadN X4.here hx rfl (hb hby own_d_prog_5_5_22) rfl rfl k) ?_
      obtain ⟨T5, X5, e5, st5⟩ := getF X4 hx hZ hown (host := "") (Or.inl (hw _ (List.mem_of_getElem? (i := 26) rfl))) Via.refl e4 Ft0 (g := (mkF m 23 #[.val (.ref o0), .val (.double (0 : UInt64)), .second, .val (.long (1 : Int64)), .second, .val (.long bv), .second, .val (.int iv)] [(.ref o0)])) rfl rfl (hb hby own_d_prog_5_5_23)
      refine own_by (V := T5.setTop (mkF m 26 #[.val (.ref o0), .val (.double (0 : UInt64)), .second, .val (.long (1 : Int64)), .second, .val (.long bv), .second, .val (.int iv)] [(.long (3 : Int64))])) st5 ?_
      refine own_by (V := T5.setTop (mkF m 27 #[.val (.ref o0), .val (.double (0 : UInt64)), .second, .val (.long (1 : Int64)), .second, .val (.long bv), .second, .val (.int iv)] [(.long (0 : Int64)), (.long (3 : Int64))])) (fun t k => XS.lconst X5.here hx rfl (hb hby own_d_prog_5_5_26) k) ?_
      refine own_by (V := T5.setTop (mkF m 28 #[.val (.ref o0), .val (.double (0 : UInt64)), .second, .val (.long (1 : Int64)), .second, .val (.long bv), .second, .val (.int iv)] [(.int (lcmpW (3 : Int64) (0 : Int64)))])) (fun t k => XS.lcmp X5.here hx rfl (hb hby own_d_prog_5_5_27) rfl k) ?_
      have hb28_6 : ((0 : Int32) < (lcmpW (3 : Int64) (0 : Int64))) := by decide
      refine own_by (V := T5.setTop (mkF m 31 #[.val (.ref o0), .val (.double (0 : UInt64)), .second, .val (.long (1 : Int64)), .second, .val (.long bv), .second, .val (.int iv)] [])) (fun t k => XS.ifNo X5.here hx rfl (hb hby own_d_prog_5_5_28) rfl ((if0 _ _).trans (tlt hb28_6).2.2.2) k) ?_
      refine own_by (V := T5.setTop (mkF m 33 #[.val (.ref o0), .val (.double (0 : UInt64)), .second, .val (.long (1 : Int64)), .second, .val (.long bv), .second, .val (.int iv)] [(.long bv)])) (fun t k => XS.lload X5.here hx rfl (hb hby own_d_prog_5_5_31) rfl  k) ?_
      refine own_by (V := T5.setTop (mkF m 34 #[.val (.ref o0), .val (.double (0 : UInt64)), .second, .val (.long (1 : Int64)), .second, .val (.long bv), .second, .val (.int iv)] [(.ref o0), (.long bv)])) (fun t k => XS.aloadN X5.here hx rfl (hb hby own_d_prog_5_5_33) rfl rfl k) ?_
      obtain ⟨T7, X7, e7, st7⟩ := getF X5 hx hZ hown (host := "") (Or.inl (hw _ (List.mem_of_getElem? (i := 11) rfl))) Via.refl e5 Fc0 (g := (mkF m 34 #[.val (.ref o0), .val (.double (0 : UInt64)), .second, .val (.long (1 : Int64)), .second, .val (.long bv), .second, .val (.int iv)] [(.ref o0), (.long bv)])) rfl rfl (hb hby own_d_prog_5_5_34)
      refine own_by (V := T7.setTop (mkF m 37 #[.val (.ref o0), .val (.double (0 : UInt64)), .second, .val (.long (1 : Int64)), .second, .val (.long bv), .second, .val (.int iv)] [(.ref b0), (.long bv)])) st7 ?_
      refine own_by (V := T7.setTop (mkF m 39 #[.val (.ref o0), .val (.double (0 : UInt64)), .second, .val (.long (1 : Int64)), .second, .val (.long bv), .second, .val (.int iv)] [(.int iv), (.ref b0), (.long bv)])) (fun t k => XS.iload X7.here hx rfl (hb hby own_d_prog_5_5_37) rfl  k) ?_
      obtain ⟨cl8, Ar8, qa8, Sa8, Ha8⟩ := id A0
      refine own_by (V := T7.setTop (mkF m 40 #[.val (.ref o0), .val (.double (0 : UInt64)), .second, .val (.long (1 : Int64)), .second, .val (.long bv), .second, .val (.int iv)] [(.long (f0 iv.toNatClampNeg)), (.long bv)])) (X7.laload hx (j := iv) (v := .long (f0 iv.toNatClampNeg)) (by rw [e7]; exact Ar8.1) (State.isArrayOf_alike hZ.alike Ar8.2.1) Ar8.2.2 (own_inb Sa8 hbk) (Ha8 _ (own_nat hbk).1) (g := (mkF m 39 #[.val (.ref o0), .val (.double (0 : UInt64)), .second, .val (.long (1 : Int64)), .second, .val (.long bv), .second, .val (.int iv)] [(.int iv), (.ref b0), (.long bv)])) rfl rfl (hb hby own_d_prog_5_5_39)) ?_
      refine own_by (V := T7.setTop (mkF m 41 #[.val (.ref o0), .val (.double (0 : UInt64)), .second, .val (.long (1 : Int64)), .second, .val (.long bv), .second, .val (.int iv)] [(.long (bv + (f0 iv.toNatClampNeg)))])) (fun t k => XS.ladd X7.here hx rfl (hb hby own_d_prog_5_5_40) rfl k) ?_
      refine own_by (V := T7.setTop (mkF m 42 #[.val (.ref o0), .val (.double (0 : UInt64)), .second, .val (.long (1 : Int64)), .second, .val (.long bv), .second, .val (.int iv)] [(.long (1 : Int64)), (.long (bv + (f0 iv.toNatClampNeg)))])) (fun t k => XS.lloadN X7.here hx rfl (hb hby own_d_prog_5_5_41) rfl  k) ?_
      refine own_by (V := T7.setTop (mkF m 43 #[.val (.ref o0), .val (.double (0 : UInt64)), .second, .val (.long (1 : Int64)), .second, .val (.long bv), .second, .val (.int iv)] [(.int (lcmpW (bv + (f0 iv.toNatClampNeg)) (1 : Int64)))])) (fun t k => XS.lcmp X7.here hx rfl (hb hby own_d_prog_5_5_42) rfl k) ?_
      by_cases hb43_9 : (lcmpW (bv + (f0 iv.toNatClampNeg)) (1 : Int64)) < (0 : Int32)
      · refine own_by (V := T7.setTop (mkF m 46 #[.val (.ref o0), .val (.double (0 : UInt64)), .second, .val (.long (1 : Int64)), .second, .val (.long bv), .second, .val (.int iv)] [])) (fun t k => XS.ifNo X7.here hx rfl (hb hby own_d_prog_5_5_43) rfl ((if0 _ _).trans (tlt hb43_9).2.1) k) ?_
        refine own_by (V := T7.setTop (mkF m 48 #[.val (.ref o0), .val (.double (0 : UInt64)), .second, .val (.long (1 : Int64)), .second, .val (.long bv), .second, .val (.int iv)] [(.long bv)])) (fun t k => XS.lload X7.here hx rfl (hb hby own_d_prog_5_5_46) rfl  k) ?_
        refine own_by (V := T7.setTop (mkF m 49 #[.val (.ref o0), .val (.double (0 : UInt64)), .second, .val (.long (1 : Int64)), .second, .val (.long bv), .second, .val (.int iv)] [(.ref o0), (.long bv)])) (fun t k => XS.aloadN X7.here hx rfl (hb hby own_d_prog_5_5_48) rfl rfl k) ?_
        obtain ⟨T10, X10, e10, st10⟩ := getF X7 hx hZ hown (host := "") (Or.inl (hw _ (List.mem_of_getElem? (i := 11) rfl))) Via.refl e7 Fc0 (g := (mkF m 49 #[.val (.ref o0), .val (.double (0 : UInt64)), .second, .val (.long (1 : Int64)), .second, .val (.long bv), .second, .val (.int iv)] [(.ref o0), (.long bv)])) rfl rfl (hb hby own_d_prog_5_5_49)
        refine own_by (V := T10.setTop (mkF m 52 #[.val (.ref o0), .val (.double (0 : UInt64)), .second, .val (.long (1 : Int64)), .second, .val (.long bv), .second, .val (.int iv)] [(.ref b0), (.long bv)])) st10 ?_
        refine own_by (V := T10.setTop (mkF m 54 #[.val (.ref o0), .val (.double (0 : UInt64)), .second, .val (.long (1 : Int64)), .second, .val (.long bv), .second, .val (.int iv)] [(.int iv), (.ref b0), (.long bv)])) (fun t k => XS.iload X10.here hx rfl (hb hby own_d_prog_5_5_52) rfl  k) ?_
        obtain ⟨cl11, Ar11, qa11, Sa11, Ha11⟩ := id A0
        refine own_by (V := T10.setTop (mkF m 55 #[.val (.ref o0), .val (.double (0 : UInt64)), .second, .val (.long (1 : Int64)), .second, .val (.long bv), .second, .val (.int iv)] [(.long (f0 iv.toNatClampNeg)), (.long bv)])) (X10.laload hx (j := iv) (v := .long (f0 iv.toNatClampNeg)) (by rw [e10]; exact Ar11.1) (State.isArrayOf_alike hZ.alike Ar11.2.1) Ar11.2.2 (own_inb Sa11 hbk) (Ha11 _ (own_nat hbk).1) (g := (mkF m 54 #[.val (.ref o0), .val (.double (0 : UInt64)), .second, .val (.long (1 : Int64)), .second, .val (.long bv), .second, .val (.int iv)] [(.int iv), (.ref b0), (.long bv)])) rfl rfl (hb hby own_d_prog_5_5_54)) ?_
        refine own_by (V := T10.setTop (mkF m 56 #[.val (.ref o0), .val (.double (0 : UInt64)), .second, .val (.long (1 : Int64)), .second, .val (.long bv), .second, .val (.int iv)] [(.long (bv + (f0 iv.toNatClampNeg)))])) (fun t k => XS.ladd X10.here hx rfl (hb hby own_d_prog_5_5_55) rfl k) ?_
        refine own_by (V := T10.setTop (mkF m 58 #[.val (.ref o0), .val (.double (0 : UInt64)), .second, .val (.long (1 : Int64)), .second, .val (.long (bv + (f0 iv.toNatClampNeg))), .second, .val (.int iv)] [])) (fun t k => XS.lstore X10.here hx rfl (hb hby own_d_prog_5_5_56) rfl (l' := #[.val (.ref o0), .val (.double (0 : UInt64)), .second, .val (.long (1 : Int64)), .second, .val (.long (bv + (f0 iv.toNatClampNeg))), .second, .val (.int iv)]) rfl k) ?_
        refine own_by (V := T10.setTop (mkF m 61 #[.val (.ref o0), .val (.double (0 : UInt64)), .second, .val (.long (1 : Int64)), .second, .val (.long (bv + (f0 iv.toNatClampNeg))), .second, .val (.int (iv + (1 : Int32)))] [])) (fun t k => XS.iinc X10.here hx rfl (hb hby own_d_prog_5_5_58) rfl (l' := #[.val (.ref o0), .val (.double (0 : UInt64)), .second, .val (.long (1 : Int64)), .second, .val (.long (bv + (f0 iv.toNatClampNeg))), .second, .val (.int (iv + (1 : Int32)))]) rfl k) ?_
        refine own_by (V := T10.setTop (mkF m 22 #[.val (.ref o0), .val (.double (0 : UInt64)), .second, .val (.long (1 : Int64)), .second, .val (.long (bv + (f0 iv.toNatClampNeg))), .second, .val (.int (iv + (1 : Int32)))] [])) (fun t k => XS.goto X10.here hx rfl (pc0 := 61) (pc' := 22) rfl (hb hby own_d_prog_5_5_61) (by decide) (by decide) k) ?_
        exact ih T10 _ (iv + (1 : Int32)) (bv + (f0 iv.toNatClampNeg)) (ix + 1) (X10.more (by decide) (by decide)) e10 N4 (own_ivinc hix (by omega)) (by omega) htn (by have q := Int64.lt_iff_toInt_lt.mp ((own_lc _ _).1.mp hb43_9); rw [htn] at q; exact q)
      · refine own_by (V := T7.setTop (mkF m 64 #[.val (.ref o0), .val (.double (0 : UInt64)), .second, .val (.long (1 : Int64)), .second, .val (.long bv), .second, .val (.int iv)] [])) (fun t k => XS.ifYes X7.here hx rfl (pc0 := 43) (pc' := 64) rfl (hb hby own_d_prog_5_5_43) rfl ((if0 _ _).trans (flt hb43_9).2.1) (by decide) (by decide) k) ?_
        have hat : own_at f0 1 iv := ⟨hbk, by rw [own_natx hix]; exact hlt, by rw [own_natx hix, ← htn]; exact Int.not_lt.mp fun u => hb43_9 ((own_lc _ _).1.mpr (Int64.lt_iff_toInt_lt.mpr u))⟩
        refine own_by (V := T7.setTop (mkF m 65 #[.val (.ref o0), .val (.double (0 : UInt64)), .second, .val (.long (1 : Int64)), .second, .val (.long bv), .second, .val (.int iv)] [(.ref o0)])) (fun t k => XS.aloadN X7.here hx rfl (hb hby own_d_prog_5_5_64) rfl rfl k) ?_
        obtain ⟨T12, X12, e12, st12⟩ := getF X7 hx hZ hown (host := "") (Or.inl (hw _ (List.mem_of_getElem? (i := 26) rfl))) Via.refl e7 Ft0 (g := (mkF m 65 #[.val (.ref o0), .val (.double (0 : UInt64)), .second, .val (.long (1 : Int64)), .second, .val (.long bv), .second, .val (.int iv)] [(.ref o0)])) rfl rfl (hb hby own_d_prog_5_5_65)
        refine own_by (V := T12.setTop (mkF m 68 #[.val (.ref o0), .val (.double (0 : UInt64)), .second, .val (.long (1 : Int64)), .second, .val (.long bv), .second, .val (.int iv)] [(.long (3 : Int64))])) st12 ?_
        refine own_by (V := T12.setTop (mkF m 69 #[.val (.ref o0), .val (.double (0 : UInt64)), .second, .val (.long (1 : Int64)), .second, .val (.long bv), .second, .val (.int iv)] [(.long (0 : Int64)), (.long (3 : Int64))])) (fun t k => XS.lconst X12.here hx rfl (hb hby own_d_prog_5_5_68) k) ?_
        refine own_by (V := T12.setTop (mkF m 70 #[.val (.ref o0), .val (.double (0 : UInt64)), .second, .val (.long (1 : Int64)), .second, .val (.long bv), .second, .val (.int iv)] [(.int (lcmpW (3 : Int64) (0 : Int64)))])) (fun t k => XS.lcmp X12.here hx rfl (hb hby own_d_prog_5_5_69) rfl k) ?_
        have hb70_13 : ((0 : Int32) < (lcmpW (3 : Int64) (0 : Int64))) := by decide
        refine own_by (V := T12.setTop (mkF m 73 #[.val (.ref o0), .val (.double (0 : UInt64)), .second, .val (.long (1 : Int64)), .second, .val (.long bv), .second, .val (.int iv)] [])) (fun t k => XS.ifNo X12.here hx rfl (hb hby own_d_prog_5_5_70) rfl ((if0 _ _).trans (tlt hb70_13).2.2.2) k) ?_
        refine own_by (V := T12.setTop (mkF m 75 #[.val (.ref o0), .val (.double (0 : UInt64)), .second, .val (.long (1 : Int64)), .second, .val (.long bv), .second, .val (.int iv)] [(.int iv)])) (fun t k => XS.iload X12.here hx rfl (hb hby own_d_prog_5_5_73) rfl  k) ?_
        obtain ⟨_, _, ⟨T14, Lq14, kq14, nq14⟩, -, X14, ⟨Lc14, hQ14, lq14, yq14, zq14⟩, st14⟩ := Jvm.LawKit.callS X12 hx (y := (⟨"com/example/nocord/nocord/bench/Latencies", "middle", "(I)J"⟩ : MethodName)) hown (mvT hZ (hw _ (List.mem_of_getElem? (i := 53) rfl))) (mvT hZ (hw _ (List.mem_of_getElem? (i := 54) rfl))) (mvT hZ (hw _ (List.mem_of_getElem? (i := 3) rfl))) (mvT hZ (hw _ (List.mem_of_getElem? (i := 55) rfl))) (by decide) (backOf (W := 0) (own_rmid l Z a0 hw [] iv h0 n0) hZ (hw _ (List.mem_of_getElem? (i := 55) rfl)) (hw _ (List.mem_of_getElem? (i := 3) rfl)) (by decide) (by decide)) (g := (mkF m 75 #[.val (.ref o0), .val (.double (0 : UInt64)), .second, .val (.long (1 : Int64)), .second, .val (.long bv), .second, .val (.int iv)] [(.int iv)])) rfl (by rw [hml]; rfl) (argsL := [(.int iv)]) (rest := []) (lenOf own_pd5 rfl) rfl (by show 2 * 0 + _ ≤ _; exact Nat.le_of_eq rfl) (hb hby own_d_prog_5_5_75) (fun _ _ => ⟨rfl, e12, (by decide : 0 + 0 ≤ _), (by decide : 0 + 0 ≤ _)⟩)
        dsimp only [Pt.U, Pt.locs, Pt.cells, Pt.slots] at X14 lq14 yq14 zq14 st14 hQ14
        subst lq14 yq14 zq14
        obtain ⟨rfl, N14q, e14⟩ := hQ14
        have N14 := Fr.app N4 N14q
        refine own_by (V := T14.setTop (mkF m 78 #[.val (.ref o0), .val (.double (0 : UInt64)), .second, .val (.long (1 : Int64)), .second, .val (.long bv), .second, .val (.int iv)] [(.long (own_mid iv))])) st14 ?_
        refine own_by (V := T14.setTop (mkF m 82 #[.val (.ref o0), .val (.double (0 : UInt64)), .second, .val (.long (1 : Int64)), .second, .val (.long bv), .second, .val (.int iv)] [(.long (own_mid iv))])) (fun t k => XS.goto X14.here hx rfl (pc0 := 78) (pc' := 82) rfl (hb hby own_d_prog_5_5_78) (by decide) (by decide) k) ?_
        refine own_retL X14 hx hlk e14 Bd.returns (hb hby own_d_prog_5_5_82) ?_ (by decide) (by decide)
        exact ⟨iv, rfl, N14, rfl, hat⟩
  rw [show (own_max (1 : Int64) (0 : Int64)) = (1 : Int64) from by decide +kernel]
  exact J4 7296 T3 _ (0 : Int32) (0 : Int64) 0 (X3.more (by decide) (by decide)) e3 N3 rfl rfl rfl (by show (0 : Int) < 1; decide)
set_option maxRecDepth 65536 in
set_option maxHeartbeats 4000000 in
theorem own_ge_v2 {p : Program} {l : Launch} {e : Env} {s B Z : State} {a0 : Array Value} {m : MethodId} {below F : List Frame} {c : Code} {T : State} {n1 n2 : Nat} (hw : ∀ d ∈ tables_1, d.before a0 Z = true) (hZ : Z.Warmed39 s.vm) (X : own_N l e s B below F m c T n1 n2) (hx : p.tables.exec = Jvm.exec) (hown : s.vm.findClass "java/lang/StrictMath" = some m.cls) {g : JFrame} (hg : g.method = m) {rest : List Value} (hs : g.stack = (.double (4609434218613702656 : UInt64)) :: rest) (hd : decode c.code g.pc = .ok (.invokestatic 66, 3)) (h1 : 3 ≤ n1) {w : Nat} (hwd : g.locals.size + 11 + 2 * g.monitorRoom + operandWords rest = w) (h2 : w + 39 ≤ n2) :
    ∃ vm', own_N l e s B below F m c (T.setVm vm') n1 n2 ∧ ∀ t, Steps p.tables e below ((T.setVm vm').setTop { g with pc := g.pc + 3, stack := (.int (0 : Int32)) :: rest }) t → Steps p.tables e below (T.setTop g) t := by
  obtain ⟨m', M, cd, U0, Y0, hownm', hM, hlk, hr, hby, k⟩ := X.scall (args := #[]) hx hown (mvT hZ (hw _ (List.mem_of_getElem? (i := 44) rfl))) (mvT hZ (hw _ (List.mem_of_getElem? (i := 45) rfl))) (mvT hZ (hw _ (List.mem_of_getElem? (i := 20) rfl))) (mvT hZ (hw _ (List.mem_of_getElem? (i := 46) rfl))) (Jvm.Free.JP.mathPlain rfl (by decide +kernel)) (by decide) hg (aL := [(.double (4609434218613702656 : UInt64))]) (rest := rest) (fun sig h => by rw [own_pd3] at h; rw [← Option.some.inj h]; rfl) hs hd (by omega) hwd (by omega)
  replace hownm' : s.vm.findClass "java/lang/Math" = some m'.cls := hownm'
  obtain ⟨vg1, Yg1, kg1⟩ := Y0.raw (args := #[]) hx hownm' (mvT hZ (hw _ (List.mem_of_getElem? (i := 47) rfl))) (mvT hZ (hw _ (List.mem_of_getElem? (i := 50) rfl))) (mvT hZ (hw _ (List.mem_of_getElem? (i := 48) rfl))) (mvT hZ (hw _ (List.mem_of_getElem? (i := 49) rfl))) (g := (mkF m' 1 #[.val (.double (4609434218613702656 : UInt64)), .second] [(.double (4609434218613702656 : UInt64))])) rfl (rest := []) rfl (hb hby own_d_jdk_29_92_1) (by omega) (by simp only [mkF, operandWords, List.foldl, Value.category, List.size_toArray, List.length]; omega)
  have kl2 := fun t => own_N.ldcL (args := #[]) Yg1 hx hownm' (mvT hZ (hw _ (List.mem_of_getElem? (i := 51) rfl))) (g := (mkF m' 4 #[.val (.double (4609434218613702656 : UInt64)), .second] [(.long (4609434218613702656 : Int64))])) rfl (hb hby own_d_jdk_29_92_4) (t := t)
  have kl3 := fun t => own_N.ldcL (args := #[]) Yg1 hx hownm' (mvT hZ (hw _ (List.mem_of_getElem? (i := 52) rfl))) (g := (mkF m' 11 #[.val (.double (4609434218613702656 : UInt64)), .second] [(.long (1023 : Int64))])) rfl (hb hby own_d_jdk_29_92_11) (t := t)
  refine ⟨(U0.setVm vg1).vm, X.noted Yg1.warmed, fun t kk => k t ?_⟩
  have ef : entryFrame m' ([(.double (4609434218613702656 : UInt64))] : List Value).toArray 2 = (mkF m' 0 #[.val (.double (4609434218613702656 : UInt64)), .second] []) := by first | (simp [entryFrame, mkF, argsToLocals, Value.category]; done) | rfl
  rw [ef]
  refine XS.dloadN Y0.here hx rfl (hb hby own_d_jdk_29_92_0) rfl ?_
  show Steps p.tables e below (U0.setTop (mkF m' 1 #[.val (.double (4609434218613702656 : UInt64)), .second] [(.double (4609434218613702656 : UInt64))])) _
  refine kg1 _ ?_
  refine own_cast (v := (.long (4609434218613702656 : UInt64).toInt64)) (w := (.long (4609434218613702656 : Int64))) (m := m') (pc := 4) (L := #[.val (.double (4609434218613702656 : UInt64)), .second]) (S := []) (congrArg Value.long (by decide +kernel)) ?_
  refine kl2 _ ?_
  show Steps p.tables e below ((U0.setVm vg1).setTop (mkF m' 7 #[.val (.double (4609434218613702656 : UInt64)), .second] [(.long (9218868437227405312 : Int64)), (.long (4609434218613702656 : Int64))])) _
  refine XS.land Yg1.here hx rfl (hb hby own_d_jdk_29_92_7) rfl ?_
  refine own_cast (v := (.long ((4609434218613702656 : Int64) &&& (9218868437227405312 : Int64)))) (w := (.long (4607182418800017408 : Int64))) (m := m') (pc := 8) (L := #[.val (.double (4609434218613702656 : UInt64)), .second]) (S := []) (congrArg Value.long (by decide +kernel)) ?_
  refine XS.bipush Yg1.here hx rfl (hb hby own_d_jdk_29_92_8) ?_
  show Steps p.tables e below ((U0.setVm vg1).setTop (mkF m' 10 #[.val (.double (4609434218613702656 : UInt64)), .second] [(.int (52 : Int32)), (.long (4607182418800017408 : Int64))])) _
  refine XS.lshr Yg1.here hx rfl (hb hby own_d_jdk_29_92_10) rfl ?_
  refine own_cast (v := (.long ((4607182418800017408 : Int64) >>> ((52 : Int32) &&& 0x3f).toInt64))) (w := (.long (1023 : Int64))) (m := m') (pc := 11) (L := #[.val (.double (4609434218613702656 : UInt64)), .second]) (S := []) (congrArg Value.long (by decide +kernel)) ?_
  refine kl3 _ ?_
  show Steps p.tables e below ((U0.setVm vg1).setTop (mkF m' 14 #[.val (.double (4609434218613702656 : UInt64)), .second] [(.long (1023 : Int64)), (.long (1023 : Int64))])) _
  refine XS.lsub Yg1.here hx rfl (hb hby own_d_jdk_29_92_14) rfl ?_
  refine own_cast (v := (.long ((1023 : Int64) - (1023 : Int64)))) (w := (.long (0 : Int64))) (m := m') (pc := 15) (L := #[.val (.double (4609434218613702656 : UInt64)), .second]) (S := []) (congrArg Value.long (by decide +kernel)) ?_
  refine XS.l2i Yg1.here hx rfl (hb hby own_d_jdk_29_92_15) rfl ?_
  refine own_cast (v := (.int (0 : Int64).toInt32)) (w := (.int (0 : Int32))) (m := m') (pc := 16) (L := #[.val (.double (4609434218613702656 : UInt64)), .second]) (S := []) (congrArg Value.int (by decide +kernel)) ?_
  refine own_N.retI (g := { g with stack := rest }) Yg1 (by show own_N l e s B below F g.method c T n1 n2; rw [hg]; exact X) hx hM hlk hr (hb hby own_d_jdk_29_92_16) hd ?_
  exact kk
set_option maxRecDepth 65536 in
set_option maxHeartbeats 4000000 in
theorem own_fo_v2 {p : Program} {l : Launch} {e : Env} {s B Z : State} {a0 : Array Value} {m : MethodId} {below F : List Frame} {c : Code} {T : State} {n1 n2 : Nat} (hw : ∀ d ∈ tables_1, d.before a0 Z = true) (hZ : Z.Warmed39 s.vm) (X : own_N l e s B below F m c T n1 n2) (hx : p.tables.exec = Jvm.exec) (hown : s.vm.findClass "java/lang/StrictMath" = some m.cls) (hS : Sta s B.heap "java/lang/StrictMath" "$assertionsDisabled" "Z" (.int 1)) (hh : T.heap = B.heap) {g : JFrame} (hg : g.method = m) {rest : List Value} (hs : g.stack = (.double (4607182418800017408 : UInt64)) :: (.double (4607182418800017408 : UInt64)) :: (.double (9223372036854775808 : UInt64)) :: (.double (4609434218613702656 : UInt64)) :: rest) (hd : decode c.code g.pc = .ok (.invokestatic 60, 3)) (h1 : 4 ≤ n1) {w : Nat} (hwd : g.locals.size + 11 + 2 * g.monitorRoom + operandWords rest = w) (h2 : w + 86 ≤ n2) :
    ∃ vm', own_N l e s B below F m c (T.setVm vm') n1 n2 ∧ ∀ t, Steps p.tables e below ((T.setVm vm').setTop { g with pc := g.pc + 3, stack := (.double (4611686018427387904 : UInt64)) :: rest }) t → Steps p.tables e below (T.setTop g) t := by
  obtain ⟨m', M, cd, U0, Y0, hownm', hM, hlk, hr, hby, k⟩ := X.scall (args := #[]) hx hown (mvT hZ (hw _ (List.mem_of_getElem? (i := 41) rfl))) (mvT hZ (hw _ (List.mem_of_getElem? (i := 42) rfl))) (mvT hZ (hw _ (List.mem_of_getElem? (i := 38) rfl))) (mvT hZ (hw _ (List.mem_of_getElem? (i := 43) rfl))) (plainFor_of_name (by decide +kernel)) (by decide) hg (aL := [(.double (4609434218613702656 : UInt64)), (.double (9223372036854775808 : UInt64)), (.double (4607182418800017408 : UInt64)), (.double (4607182418800017408 : UInt64))]) (rest := rest) (fun sig h => by rw [own_pd4] at h; rw [← Option.some.inj h]; rfl) hs hd (by omega) hwd (by omega)
  replace hownm' : s.vm.findClass "java/lang/StrictMath" = some m'.cls := hownm'
  obtain ⟨vg1, Yg1, kg1⟩ := own_ge_v2 hw hZ Y0 hx hownm' (g := (mkF m' 1 #[.val (.double (4609434218613702656 : UInt64)), .second, .val (.double (9223372036854775808 : UInt64)), .second, .val (.double (4607182418800017408 : UInt64)), .second, .val (.double (4607182418800017408 : UInt64)), .second, .unset, .unset, .unset, .unset, .unset, .unset, .unset] [(.double (4609434218613702656 : UInt64))])) rfl (rest := []) rfl (hb hby own_d_jdk_128_18_1) (by omega) rfl (by simp only [mkF, operandWords, List.foldl, Value.category, List.size_toArray, List.length]; omega)
  obtain ⟨vg2, Yg2, kg2⟩ := Yg1.getst (args := #[]) (v := .int 1) hx hownm' (mvT hZ (hw _ (List.mem_of_getElem? (i := 56) rfl))) (by rw [Yg1.heapEq, hh]; exact hS) (g := (mkF m' 43 #[.val (.double (4609434218613702656 : UInt64)), .second, .val (.double (9223372036854775808 : UInt64)), .second, .val (.double (4607182418800017408 : UInt64)), .second, .val (.double (4607182418800017408 : UInt64)), .second, .val (.int (0 : Int32)), .unset, .unset, .unset, .unset, .unset, .unset] [])) rfl (hb hby own_d_jdk_128_18_43)
  obtain ⟨vg3, Yg3, kg3⟩ := Yg2.raw (args := #[]) hx hownm' (mvT hZ (hw _ (List.mem_of_getElem? (i := 57) rfl))) (mvT hZ (hw _ (List.mem_of_getElem? (i := 50) rfl))) (mvT hZ (hw _ (List.mem_of_getElem? (i := 48) rfl))) (mvT hZ (hw _ (List.mem_of_getElem? (i := 49) rfl))) (g := (mkF m' 70 #[.val (.double (4609434218613702656 : UInt64)), .second, .val (.double (9223372036854775808 : UInt64)), .second, .val (.double (4607182418800017408 : UInt64)), .second, .val (.double (4607182418800017408 : UInt64)), .second, .val (.int (0 : Int32)), .unset, .unset, .unset, .unset, .unset, .unset] [(.double (4609434218613702656 : UInt64))])) rfl (rest := []) rfl (hb hby own_d_jdk_128_18_70) (by omega) (by simp only [mkF, operandWords, List.foldl, Value.category, List.size_toArray, List.length]; omega)
  have kl4 := fun t => own_N.ldcL (args := #[]) Yg3 hx hownm' (mvT hZ (hw _ (List.mem_of_getElem? (i := 58) rfl))) (g := (mkF m' 75 #[.val (.double (4609434218613702656 : UInt64)), .second, .val (.double (9223372036854775808 : UInt64)), .second, .val (.double (4607182418800017408 : UInt64)), .second, .val (.double (4607182418800017408 : UInt64)), .second, .val (.int (0 : Int32)), .val (.long (4609434218613702656 : Int64)), .second, .unset, .unset, .unset, .unset] [])) rfl (hb hby own_d_jdk_128_18_75) (t := t)
  have kl5 := fun t => own_N.ldcL (args := #[]) Yg3 hx hownm' (mvT hZ (hw _ (List.mem_of_getElem? (i := 74) rfl))) (g := (mkF m' 99 #[.val (.double (4609434218613702656 : UInt64)), .second, .val (.double (9223372036854775808 : UInt64)), .second, .val (.double (4607182418800017408 : UInt64)), .second, .val (.double (4607182418800017408 : UInt64)), .second, .val (.int (0 : Int32)), .val (.long (4609434218613702656 : Int64)), .second, .val (.long (4503599627370495 : Int64)), .second, .unset, .unset] [(.long (4503599627370495 : Int64)), (.long (4609434218613702656 : Int64))])) rfl (hb hby own_d_jdk_128_18_99) (t := t)
  obtain ⟨vg6, Yg6, kg6⟩ := Yg3.bits (args := #[]) hx hownm' (mvT hZ (hw _ (List.mem_of_getElem? (i := 75) rfl))) (mvT hZ (hw _ (List.mem_of_getElem? (i := 77) rfl))) (mvT hZ (hw _ (List.mem_of_getElem? (i := 76) rfl))) (mvT hZ (hw _ (List.mem_of_getElem? (i := 49) rfl))) (g := (mkF m' 104 #[.val (.double (4609434218613702656 : UInt64)), .second, .val (.double (9223372036854775808 : UInt64)), .second, .val (.double (4607182418800017408 : UInt64)), .second, .val (.double (4607182418800017408 : UInt64)), .second, .val (.int (0 : Int32)), .val (.long (4609434218613702656 : Int64)), .second, .val (.long (4503599627370495 : Int64)), .second, .unset, .unset] [(.long (4607182418800017408 : Int64))])) rfl (rest := []) (by decide +kernel) rfl (hb hby own_d_jdk_128_18_104) (by omega) (by simp only [mkF, operandWords, List.foldl, Value.category, List.size_toArray, List.length]; omega)
  refine ⟨((((U0.setVm vg1).setVm vg2).setVm vg3).setVm vg6).vm, X.noted Yg6.warmed, fun t kk => k t ?_⟩
  have ef : entryFrame m' ([(.double (4609434218613702656 : UInt64)), (.double (9223372036854775808 : UInt64)), (.double (4607182418800017408 : UInt64)), (.double (4607182418800017408 : UInt64))] : List Value).toArray 15 = (mkF m' 0 #[.val (.double (4609434218613702656 : UInt64)), .second, .val (.double (9223372036854775808 : UInt64)), .second, .val (.double (4607182418800017408 : UInt64)), .second, .val (.double (4607182418800017408 : UInt64)), .second, .unset, .unset, .unset, .unset, .unset, .unset, .unset] []) := by first | (simp [entryFrame, mkF, argsToLocals, Value.category]; done) | rfl
  rw [ef]
  refine XS.dloadN Y0.here hx rfl (hb hby own_d_jdk_128_18_0) rfl ?_
  show Steps p.tables e below (U0.setTop (mkF m' 1 #[.val (.double (4609434218613702656 : UInt64)), .second, .val (.double (9223372036854775808 : UInt64)), .second, .val (.double (4607182418800017408 : UInt64)), .second, .val (.double (4607182418800017408 : UInt64)), .second, .unset, .unset, .unset, .unset, .unset, .unset, .unset] [(.double (4609434218613702656 : UInt64))])) _
  refine kg1 _ ?_
  show Steps p.tables e below ((U0.setVm vg1).setTop (mkF m' 4 #[.val (.double (4609434218613702656 : UInt64)), .second, .val (.double (9223372036854775808 : UInt64)), .second, .val (.double (4607182418800017408 : UInt64)), .second, .val (.double (4607182418800017408 : UInt64)), .second, .unset, .unset, .unset, .unset, .unset, .unset, .unset] [(.int (0 : Int32))])) _
  refine XS.istore Yg1.here hx rfl (hb hby own_d_jdk_128_18_4) rfl (l' := #[.val (.double (4609434218613702656 : UInt64)), .second, .val (.double (9223372036854775808 : UInt64)), .second, .val (.double (4607182418800017408 : UInt64)), .second, .val (.double (4607182418800017408 : UInt64)), .second, .val (.int (0 : Int32)), .unset, .unset, .unset, .unset, .unset, .unset]) rfl ?_
  show Steps p.tables e below ((U0.setVm vg1).setTop (mkF m' 6 #[.val (.double (4609434218613702656 : UInt64)), .second, .val (.double (9223372036854775808 : UInt64)), .second, .val (.double (4607182418800017408 : UInt64)), .second, .val (.double (4607182418800017408 : UInt64)), .second, .val (.int (0 : Int32)), .unset, .unset, .unset, .unset, .unset, .unset] [])) _
  refine XS.iload Yg1.here hx rfl (hb hby own_d_jdk_128_18_6) rfl ?_
  show Steps p.tables e below ((U0.setVm vg1).setTop (mkF m' 8 #[.val (.double (4609434218613702656 : UInt64)), .second, .val (.double (9223372036854775808 : UInt64)), .second, .val (.double (4607182418800017408 : UInt64)), .second, .val (.double (4607182418800017408 : UInt64)), .second, .val (.int (0 : Int32)), .unset, .unset, .unset, .unset, .unset, .unset] [(.int (0 : Int32))])) _
  refine XS.ifYes Yg1.here hx rfl (pc0 := 8) (pc' := 34) rfl (hb hby own_d_jdk_128_18_8) rfl (by decide +kernel) (by decide) (by decide) ?_
  show Steps p.tables e below ((U0.setVm vg1).setTop (mkF m' 34 #[.val (.double (4609434218613702656 : UInt64)), .second, .val (.double (9223372036854775808 : UInt64)), .second, .val (.double (4607182418800017408 : UInt64)), .second, .val (.double (4607182418800017408 : UInt64)), .second, .val (.int (0 : Int32)), .unset, .unset, .unset, .unset, .unset, .unset] [])) _
  refine XS.iload Yg1.here hx rfl (hb hby own_d_jdk_128_18_34) rfl ?_
  show Steps p.tables e below ((U0.setVm vg1).setTop (mkF m' 36 #[.val (.double (4609434218613702656 : UInt64)), .second, .val (.double (9223372036854775808 : UInt64)), .second, .val (.double (4607182418800017408 : UInt64)), .second, .val (.double (4607182418800017408 : UInt64)), .second, .val (.int (0 : Int32)), .unset, .unset, .unset, .unset, .unset, .unset] [(.int (0 : Int32))])) _
  refine XS.bipush Yg1.here hx rfl (hb hby own_d_jdk_128_18_36) ?_
  show Steps p.tables e below ((U0.setVm vg1).setTop (mkF m' 38 #[.val (.double (4609434218613702656 : UInt64)), .second, .val (.double (9223372036854775808 : UInt64)), .second, .val (.double (4607182418800017408 : UInt64)), .second, .val (.double (4607182418800017408 : UInt64)), .second, .val (.int (0 : Int32)), .unset, .unset, .unset, .unset, .unset, .unset] [(.int (52 : Int32)), (.int (0 : Int32))])) _
  refine XS.icmpYes Yg1.here hx rfl (pc0 := 38) (pc' := 43) rfl (hb hby own_d_jdk_128_18_38) rfl (by decide +kernel) (by decide) (by decide) ?_
  show Steps p.tables e below ((U0.setVm vg1).setTop (mkF m' 43 #[.val (.double (4609434218613702656 : UInt64)), .second, .val (.double (9223372036854775808 : UInt64)), .second, .val (.double (4607182418800017408 : UInt64)), .second, .val (.double (4607182418800017408 : UInt64)), .second, .val (.int (0 : Int32)), .unset, .unset, .unset, .unset, .unset, .unset] [])) _
  refine kg2 _ ?_
  show Steps p.tables e below (((U0.setVm vg1).setVm vg2).setTop (mkF m' 46 #[.val (.double (4609434218613702656 : UInt64)), .second, .val (.double (9223372036854775808 : UInt64)), .second, .val (.double (4607182418800017408 : UInt64)), .second, .val (.double (4607182418800017408 : UInt64)), .second, .val (.int (0 : Int32)), .unset, .unset, .unset, .unset, .unset, .unset] [(.int (1 : Int32))])) _
  refine XS.ifYes Yg2.here hx rfl (pc0 := 46) (pc' := 69) rfl (hb hby own_d_jdk_128_18_46) rfl (by decide +kernel) (by decide) (by decide) ?_
  show Steps p.tables e below (((U0.setVm vg1).setVm vg2).setTop (mkF m' 69 #[.val (.double (4609434218613702656 : UInt64)), .second, .val (.double (9223372036854775808 : UInt64)), .second, .val (.double (4607182418800017408 : UInt64)), .second, .val (.double (4607182418800017408 : UInt64)), .second, .val (.int (0 : Int32)), .unset, .unset, .unset, .unset, .unset, .unset] [])) _
  refine XS.dloadN Yg2.here hx rfl (hb hby own_d_jdk_128_18_69) rfl ?_
  show Steps p.tables e below (((U0.setVm vg1).setVm vg2).setTop (mkF m' 70 #[.val (.double (4609434218613702656 : UInt64)), .second, .val (.double (9223372036854775808 : UInt64)), .second, .val (.double (4607182418800017408 : UInt64)), .second, .val (.double (4607182418800017408 : UInt64)), .second, .val (.int (0 : Int32)), .unset, .unset, .unset, .unset, .unset, .unset] [(.double (4609434218613702656 : UInt64))])) _
  refine kg3 _ ?_
  refine own_cast (v := (.long (4609434218613702656 : UInt64).toInt64)) (w := (.long (4609434218613702656 : Int64))) (m := m') (pc := 73) (L := #[.val (.double (4609434218613702656 : UInt64)), .second, .val (.double (9223372036854775808 : UInt64)), .second, .val (.double (4607182418800017408 : UInt64)), .second, .val (.double (4607182418800017408 : UInt64)), .second, .val (.int (0 : Int32)), .unset, .unset, .unset, .unset, .unset, .unset]) (S := []) (congrArg Value.long (by decide +kernel)) ?_
  refine XS.lstore Yg3.here hx rfl (hb hby own_d_jdk_128_18_73) rfl (l' := #[.val (.double (4609434218613702656 : UInt64)), .second, .val (.double (9223372036854775808 : UInt64)), .second, .val (.double (4607182418800017408 : UInt64)), .second, .val (.double (4607182418800017408 : UInt64)), .second, .val (.int (0 : Int32)), .val (.long (4609434218613702656 : Int64)), .second, .unset, .unset, .unset, .unset]) rfl ?_
  show Steps p.tables e below ((((U0.setVm vg1).setVm vg2).setVm vg3).setTop (mkF m' 75 #[.val (.double (4609434218613702656 : UInt64)), .second, .val (.double (9223372036854775808 : UInt64)), .second, .val (.double (4607182418800017408 : UInt64)), .second, .val (.double (4607182418800017408 : UInt64)), .second, .val (.int (0 : Int32)), .val (.long (4609434218613702656 : Int64)), .second, .unset, .unset, .unset, .unset] [])) _
  refine kl4 _ ?_
  show Steps p.tables e below ((((U0.setVm vg1).setVm vg2).setVm vg3).setTop (mkF m' 78 #[.val (.double (4609434218613702656 : UInt64)), .second, .val (.double (9223372036854775808 : UInt64)), .second, .val (.double (4607182418800017408 : UInt64)), .second, .val (.double (4607182418800017408 : UInt64)), .second, .val (.int (0 : Int32)), .val (.long (4609434218613702656 : Int64)), .second, .unset, .unset, .unset, .unset] [(.long (4503599627370495 : Int64))])) _
  refine XS.iload Yg3.here hx rfl (hb hby own_d_jdk_128_18_78) rfl ?_
  show Steps p.tables e below ((((U0.setVm vg1).setVm vg2).setVm vg3).setTop (mkF m' 80 #[.val (.double (4609434218613702656 : UInt64)), .second, .val (.double (9223372036854775808 : UInt64)), .second, .val (.double (4607182418800017408 : UInt64)), .second, .val (.double (4607182418800017408 : UInt64)), .second, .val (.int (0 : Int32)), .val (.long (4609434218613702656 : Int64)), .second, .unset, .unset, .unset, .unset] [(.int (0 : Int32)), (.long (4503599627370495 : Int64))])) _
  refine XS.lshr Yg3.here hx rfl (hb hby own_d_jdk_128_18_80) rfl ?_
  refine own_cast (v := (.long ((4503599627370495 : Int64) >>> ((0 : Int32) &&& 0x3f).toInt64))) (w := (.long (4503599627370495 : Int64))) (m := m') (pc := 81) (L := #[.val (.double (4609434218613702656 : UInt64)), .second, .val (.double (9223372036854775808 : UInt64)), .second, .val (.double (4607182418800017408 : UInt64)), .second, .val (.double (4607182418800017408 : UInt64)), .second, .val (.int (0 : Int32)), .val (.long (4609434218613702656 : Int64)), .second, .unset, .unset, .unset, .unset]) (S := []) (congrArg Value.long (by decide +kernel)) ?_
  refine XS.lstore Yg3.here hx rfl (hb hby own_d_jdk_128_18_81) rfl (l' := #[.val (.double (4609434218613702656 : UInt64)), .second, .val (.double (9223372036854775808 : UInt64)), .second, .val (.double (4607182418800017408 : UInt64)), .second, .val (.double (4607182418800017408 : UInt64)), .second, .val (.int (0 : Int32)), .val (.long (4609434218613702656 : Int64)), .second, .val (.long (4503599627370495 : Int64)), .second, .unset, .unset]) rfl ?_
  show Steps p.tables e below ((((U0.setVm vg1).setVm vg2).setVm vg3).setTop (mkF m' 83 #[.val (.double (4609434218613702656 : UInt64)), .second, .val (.double (9223372036854775808 : UInt64)), .second, .val (.double (4607182418800017408 : UInt64)), .second, .val (.double (4607182418800017408 : UInt64)), .second, .val (.int (0 : Int32)), .val (.long (4609434218613702656 : Int64)), .second, .val (.long (4503599627370495 : Int64)), .second, .unset, .unset] [])) _
  refine XS.lload Yg3.here hx rfl (hb hby own_d_jdk_128_18_83) rfl ?_
  show Steps p.tables e below ((((U0.setVm vg1).setVm vg2).setVm vg3).setTop (mkF m' 85 #[.val (.double (4609434218613702656 : UInt64)), .second, .val (.double (9223372036854775808 : UInt64)), .second, .val (.double (4607182418800017408 : UInt64)), .second, .val (.double (4607182418800017408 : UInt64)), .second, .val (.int (0 : Int32)), .val (.long (4609434218613702656 : Int64)), .second, .val (.long (4503599627370495 : Int64)), .second, .unset, .unset] [(.long (4503599627370495 : Int64))])) _
  refine XS.lload Yg3.here hx rfl (hb hby own_d_jdk_128_18_85) rfl ?_
  show Steps p.tables e below ((((U0.setVm vg1).setVm vg2).setVm vg3).setTop (mkF m' 87 #[.val (.double (4609434218613702656 : UInt64)), .second, .val (.double (9223372036854775808 : UInt64)), .second, .val (.double (4607182418800017408 : UInt64)), .second, .val (.double (4607182418800017408 : UInt64)), .second, .val (.int (0 : Int32)), .val (.long (4609434218613702656 : Int64)), .second, .val (.long (4503599627370495 : Int64)), .second, .unset, .unset] [(.long (4609434218613702656 : Int64)), (.long (4503599627370495 : Int64))])) _
  refine XS.land Yg3.here hx rfl (hb hby own_d_jdk_128_18_87) rfl ?_
  refine own_cast (v := (.long ((4503599627370495 : Int64) &&& (4609434218613702656 : Int64)))) (w := (.long (2251799813685248 : Int64))) (m := m') (pc := 88) (L := #[.val (.double (4609434218613702656 : UInt64)), .second, .val (.double (9223372036854775808 : UInt64)), .second, .val (.double (4607182418800017408 : UInt64)), .second, .val (.double (4607182418800017408 : UInt64)), .second, .val (.int (0 : Int32)), .val (.long (4609434218613702656 : Int64)), .second, .val (.long (4503599627370495 : Int64)), .second, .unset, .unset]) (S := []) (congrArg Value.long (by decide +kernel)) ?_
  refine XS.lconst Yg3.here hx rfl (hb hby own_d_jdk_128_18_88) ?_
  show Steps p.tables e below ((((U0.setVm vg1).setVm vg2).setVm vg3).setTop (mkF m' 89 #[.val (.double (4609434218613702656 : UInt64)), .second, .val (.double (9223372036854775808 : UInt64)), .second, .val (.double (4607182418800017408 : UInt64)), .second, .val (.double (4607182418800017408 : UInt64)), .second, .val (.int (0 : Int32)), .val (.long (4609434218613702656 : Int64)), .second, .val (.long (4503599627370495 : Int64)), .second, .unset, .unset] [(.long (0 : Int64)), (.long (2251799813685248 : Int64))])) _
  refine XS.lcmp Yg3.here hx rfl (hb hby own_d_jdk_128_18_89) rfl ?_
  refine own_cast (v := (.int (lcmpW (2251799813685248 : Int64) (0 : Int64)))) (w := (.int (1 : Int32))) (m := m') (pc := 90) (L := #[.val (.double (4609434218613702656 : UInt64)), .second, .val (.double (9223372036854775808 : UInt64)), .second, .val (.double (4607182418800017408 : UInt64)), .second, .val (.double (4607182418800017408 : UInt64)), .second, .val (.int (0 : Int32)), .val (.long (4609434218613702656 : Int64)), .second, .val (.long (4503599627370495 : Int64)), .second, .unset, .unset]) (S := []) (congrArg Value.int (by decide +kernel)) ?_
  refine XS.ifYes Yg3.here hx rfl (pc0 := 90) (pc' := 95) rfl (hb hby own_d_jdk_128_18_90) rfl (by decide +kernel) (by decide) (by decide) ?_
  show Steps p.tables e below ((((U0.setVm vg1).setVm vg2).setVm vg3).setTop (mkF m' 95 #[.val (.double (4609434218613702656 : UInt64)), .second, .val (.double (9223372036854775808 : UInt64)), .second, .val (.double (4607182418800017408 : UInt64)), .second, .val (.double (4607182418800017408 : UInt64)), .second, .val (.int (0 : Int32)), .val (.long (4609434218613702656 : Int64)), .second, .val (.long (4503599627370495 : Int64)), .second, .unset, .unset] [])) _
  refine XS.lload Yg3.here hx rfl (hb hby own_d_jdk_128_18_95) rfl ?_
  show Steps p.tables e below ((((U0.setVm vg1).setVm vg2).setVm vg3).setTop (mkF m' 97 #[.val (.double (4609434218613702656 : UInt64)), .second, .val (.double (9223372036854775808 : UInt64)), .second, .val (.double (4607182418800017408 : UInt64)), .second, .val (.double (4607182418800017408 : UInt64)), .second, .val (.int (0 : Int32)), .val (.long (4609434218613702656 : Int64)), .second, .val (.long (4503599627370495 : Int64)), .second, .unset, .unset] [(.long (4609434218613702656 : Int64))])) _
  refine XS.lload Yg3.here hx rfl (hb hby own_d_jdk_128_18_97) rfl ?_
  show Steps p.tables e below ((((U0.setVm vg1).setVm vg2).setVm vg3).setTop (mkF m' 99 #[.val (.double (4609434218613702656 : UInt64)), .second, .val (.double (9223372036854775808 : UInt64)), .second, .val (.double (4607182418800017408 : UInt64)), .second, .val (.double (4607182418800017408 : UInt64)), .second, .val (.int (0 : Int32)), .val (.long (4609434218613702656 : Int64)), .second, .val (.long (4503599627370495 : Int64)), .second, .unset, .unset] [(.long (4503599627370495 : Int64)), (.long (4609434218613702656 : Int64))])) _
  refine kl5 _ ?_
  show Steps p.tables e below ((((U0.setVm vg1).setVm vg2).setVm vg3).setTop (mkF m' 102 #[.val (.double (4609434218613702656 : UInt64)), .second, .val (.double (9223372036854775808 : UInt64)), .second, .val (.double (4607182418800017408 : UInt64)), .second, .val (.double (4607182418800017408 : UInt64)), .second, .val (.int (0 : Int32)), .val (.long (4609434218613702656 : Int64)), .second, .val (.long (4503599627370495 : Int64)), .second, .unset, .unset] [(.long (-1 : Int64)), (.long (4503599627370495 : Int64)), (.long (4609434218613702656 : Int64))])) _
  refine XS.lxor Yg3.here hx rfl (hb hby own_d_jdk_128_18_102) rfl ?_
  refine own_cast (v := (.long ((4503599627370495 : Int64) ^^^ (-1 : Int64)))) (w := (.long (-4503599627370496 : Int64))) (m := m') (pc := 103) (L := #[.val (.double (4609434218613702656 : UInt64)), .second, .val (.double (9223372036854775808 : UInt64)), .second, .val (.double (4607182418800017408 : UInt64)), .second, .val (.double (4607182418800017408 : UInt64)), .second, .val (.int (0 : Int32)), .val (.long (4609434218613702656 : Int64)), .second, .val (.long (4503599627370495 : Int64)), .second, .unset, .unset]) (S := [(.long (4609434218613702656 : Int64))]) (congrArg Value.long (by decide +kernel)) ?_
  refine XS.land Yg3.here hx rfl (hb hby own_d_jdk_128_18_103) rfl ?_
  refine own_cast (v := (.long ((4609434218613702656 : Int64) &&& (-4503599627370496 : Int64)))) (w := (.long (4607182418800017408 : Int64))) (m := m') (pc := 104) (L := #[.val (.double (4609434218613702656 : UInt64)), .second, .val (.double (9223372036854775808 : UInt64)), .second, .val (.double (4607182418800017408 : UInt64)), .second, .val (.double (4607182418800017408 : UInt64)), .second, .val (.int (0 : Int32)), .val (.long (4609434218613702656 : Int64)), .second, .val (.long (4503599627370495 : Int64)), .second, .unset, .unset]) (S := []) (congrArg Value.long (by decide +kernel)) ?_
  refine kg6 _ ?_
  refine own_cast (v := (.double (4607182418800017408 : Int64).toUInt64)) (w := (.double (4607182418800017408 : UInt64))) (m := m') (pc := 107) (L := #[.val (.double (4609434218613702656 : UInt64)), .second, .val (.double (9223372036854775808 : UInt64)), .second, .val (.double (4607182418800017408 : UInt64)), .second, .val (.double (4607182418800017408 : UInt64)), .second, .val (.int (0 : Int32)), .val (.long (4609434218613702656 : Int64)), .second, .val (.long (4503599627370495 : Int64)), .second, .unset, .unset]) (S := []) (congrArg Value.double (by decide +kernel)) ?_
  refine XS.dstore Yg6.here hx rfl (hb hby own_d_jdk_128_18_107) rfl (l' := #[.val (.double (4609434218613702656 : UInt64)), .second, .val (.double (9223372036854775808 : UInt64)), .second, .val (.double (4607182418800017408 : UInt64)), .second, .val (.double (4607182418800017408 : UInt64)), .second, .val (.int (0 : Int32)), .val (.long (4609434218613702656 : Int64)), .second, .val (.long (4503599627370495 : Int64)), .second, .val (.double (4607182418800017408 : UInt64)), .second]) rfl ?_
  show Steps p.tables e below (((((U0.setVm vg1).setVm vg2).setVm vg3).setVm vg6).setTop (mkF m' 109 #[.val (.double (4609434218613702656 : UInt64)), .second, .val (.double (9223372036854775808 : UInt64)), .second, .val (.double (4607182418800017408 : UInt64)), .second, .val (.double (4607182418800017408 : UInt64)), .second, .val (.int (0 : Int32)), .val (.long (4609434218613702656 : Int64)), .second, .val (.long (4503599627370495 : Int64)), .second, .val (.double (4607182418800017408 : UInt64)), .second] [])) _
  refine XS.dload Yg6.here hx rfl (hb hby own_d_jdk_128_18_109) rfl ?_
  show Steps p.tables e below (((((U0.setVm vg1).setVm vg2).setVm vg3).setVm vg6).setTop (mkF m' 111 #[.val (.double (4609434218613702656 : UInt64)), .second, .val (.double (9223372036854775808 : UInt64)), .second, .val (.double (4607182418800017408 : UInt64)), .second, .val (.double (4607182418800017408 : UInt64)), .second, .val (.int (0 : Int32)), .val (.long (4609434218613702656 : Int64)), .second, .val (.long (4503599627370495 : Int64)), .second, .val (.double (4607182418800017408 : UInt64)), .second] [(.double (4607182418800017408 : UInt64))])) _
  refine XS.dloadN Yg6.here hx rfl (hb hby own_d_jdk_128_18_111) rfl ?_
  show Steps p.tables e below (((((U0.setVm vg1).setVm vg2).setVm vg3).setVm vg6).setTop (mkF m' 112 #[.val (.double (4609434218613702656 : UInt64)), .second, .val (.double (9223372036854775808 : UInt64)), .second, .val (.double (4607182418800017408 : UInt64)), .second, .val (.double (4607182418800017408 : UInt64)), .second, .val (.int (0 : Int32)), .val (.long (4609434218613702656 : Int64)), .second, .val (.long (4503599627370495 : Int64)), .second, .val (.double (4607182418800017408 : UInt64)), .second] [(.double (4609434218613702656 : UInt64)), (.double (4607182418800017408 : UInt64))])) _
  refine XS.dmulS Yg6.here hx rfl (hb hby own_d_jdk_128_18_112) rfl (by unfold Jvm.Free.Fl.NoNaN64; decide +kernel) (v := 4609434218613702656) (by decide +kernel) ?_
  show Steps p.tables e below (((((U0.setVm vg1).setVm vg2).setVm vg3).setVm vg6).setTop (mkF m' 113 #[.val (.double (4609434218613702656 : UInt64)), .second, .val (.double (9223372036854775808 : UInt64)), .second, .val (.double (4607182418800017408 : UInt64)), .second, .val (.double (4607182418800017408 : UInt64)), .second, .val (.int (0 : Int32)), .val (.long (4609434218613702656 : Int64)), .second, .val (.long (4503599627370495 : Int64)), .second, .val (.double (4607182418800017408 : UInt64)), .second] [(.double (4609434218613702656 : UInt64))])) _
  refine XS.dconst0 Yg6.here hx rfl (hb hby own_d_jdk_128_18_113) (v := 0) (by decide +kernel) ?_
  show Steps p.tables e below (((((U0.setVm vg1).setVm vg2).setVm vg3).setVm vg6).setTop (mkF m' 114 #[.val (.double (4609434218613702656 : UInt64)), .second, .val (.double (9223372036854775808 : UInt64)), .second, .val (.double (4607182418800017408 : UInt64)), .second, .val (.double (4607182418800017408 : UInt64)), .second, .val (.int (0 : Int32)), .val (.long (4609434218613702656 : Int64)), .second, .val (.long (4503599627370495 : Int64)), .second, .val (.double (4607182418800017408 : UInt64)), .second] [(.double (0 : UInt64)), (.double (4609434218613702656 : UInt64))])) _
  refine XS.dcmpS Yg6.here hx rfl (hb hby own_d_jdk_128_18_114) rfl (v := 1) (by decide +kernel) ?_
  show Steps p.tables e below (((((U0.setVm vg1).setVm vg2).setVm vg3).setVm vg6).setTop (mkF m' 115 #[.val (.double (4609434218613702656 : UInt64)), .second, .val (.double (9223372036854775808 : UInt64)), .second, .val (.double (4607182418800017408 : UInt64)), .second, .val (.double (4607182418800017408 : UInt64)), .second, .val (.int (0 : Int32)), .val (.long (4609434218613702656 : Int64)), .second, .val (.long (4503599627370495 : Int64)), .second, .val (.double (4607182418800017408 : UInt64)), .second] [(.int (1 : Int32))])) _
  refine XS.ifNo Yg6.here hx rfl (hb hby own_d_jdk_128_18_115) rfl (by decide +kernel) ?_
  show Steps p.tables e below (((((U0.setVm vg1).setVm vg2).setVm vg3).setVm vg6).setTop (mkF m' 118 #[.val (.double (4609434218613702656 : UInt64)), .second, .val (.double (9223372036854775808 : UInt64)), .second, .val (.double (4607182418800017408 : UInt64)), .second, .val (.double (4607182418800017408 : UInt64)), .second, .val (.int (0 : Int32)), .val (.long (4609434218613702656 : Int64)), .second, .val (.long (4503599627370495 : Int64)), .second, .val (.double (4607182418800017408 : UInt64)), .second] [])) _
  refine XS.dload Yg6.here hx rfl (hb hby own_d_jdk_128_18_118) rfl ?_
  show Steps p.tables e below (((((U0.setVm vg1).setVm vg2).setVm vg3).setVm vg6).setTop (mkF m' 120 #[.val (.double (4609434218613702656 : UInt64)), .second, .val (.double (9223372036854775808 : UInt64)), .second, .val (.double (4607182418800017408 : UInt64)), .second, .val (.double (4607182418800017408 : UInt64)), .second, .val (.int (0 : Int32)), .val (.long (4609434218613702656 : Int64)), .second, .val (.long (4503599627370495 : Int64)), .second, .val (.double (4607182418800017408 : UInt64)), .second] [(.double (4607182418800017408 : UInt64))])) _
  refine XS.dload Yg6.here hx rfl (hb hby own_d_jdk_128_18_120) rfl ?_
  show Steps p.tables e below (((((U0.setVm vg1).setVm vg2).setVm vg3).setVm vg6).setTop (mkF m' 122 #[.val (.double (4609434218613702656 : UInt64)), .second, .val (.double (9223372036854775808 : UInt64)), .second, .val (.double (4607182418800017408 : UInt64)), .second, .val (.double (4607182418800017408 : UInt64)), .second, .val (.int (0 : Int32)), .val (.long (4609434218613702656 : Int64)), .second, .val (.long (4503599627370495 : Int64)), .second, .val (.double (4607182418800017408 : UInt64)), .second] [(.double (4607182418800017408 : UInt64)), (.double (4607182418800017408 : UInt64))])) _
  refine XS.daddS Yg6.here hx rfl (hb hby own_d_jdk_128_18_122) rfl (by unfold Jvm.Free.Fl.NoNaN64; decide +kernel) (v := 4611686018427387904) (by decide +kernel) ?_
  show Steps p.tables e below (((((U0.setVm vg1).setVm vg2).setVm vg3).setVm vg6).setTop (mkF m' 123 #[.val (.double (4609434218613702656 : UInt64)), .second, .val (.double (9223372036854775808 : UInt64)), .second, .val (.double (4607182418800017408 : UInt64)), .second, .val (.double (4607182418800017408 : UInt64)), .second, .val (.int (0 : Int32)), .val (.long (4609434218613702656 : Int64)), .second, .val (.long (4503599627370495 : Int64)), .second, .val (.double (4607182418800017408 : UInt64)), .second] [(.double (4611686018427387904 : UInt64))])) _
  refine XS.dstore Yg6.here hx rfl (hb hby own_d_jdk_128_18_123) rfl (l' := #[.val (.double (4609434218613702656 : UInt64)), .second, .val (.double (9223372036854775808 : UInt64)), .second, .val (.double (4607182418800017408 : UInt64)), .second, .val (.double (4607182418800017408 : UInt64)), .second, .val (.int (0 : Int32)), .val (.long (4609434218613702656 : Int64)), .second, .val (.long (4503599627370495 : Int64)), .second, .val (.double (4611686018427387904 : UInt64)), .second]) rfl ?_
  show Steps p.tables e below (((((U0.setVm vg1).setVm vg2).setVm vg3).setVm vg6).setTop (mkF m' 125 #[.val (.double (4609434218613702656 : UInt64)), .second, .val (.double (9223372036854775808 : UInt64)), .second, .val (.double (4607182418800017408 : UInt64)), .second, .val (.double (4607182418800017408 : UInt64)), .second, .val (.int (0 : Int32)), .val (.long (4609434218613702656 : Int64)), .second, .val (.long (4503599627370495 : Int64)), .second, .val (.double (4611686018427387904 : UInt64)), .second] [])) _
  refine XS.dload Yg6.here hx rfl (hb hby own_d_jdk_128_18_125) rfl ?_
  show Steps p.tables e below (((((U0.setVm vg1).setVm vg2).setVm vg3).setVm vg6).setTop (mkF m' 127 #[.val (.double (4609434218613702656 : UInt64)), .second, .val (.double (9223372036854775808 : UInt64)), .second, .val (.double (4607182418800017408 : UInt64)), .second, .val (.double (4607182418800017408 : UInt64)), .second, .val (.int (0 : Int32)), .val (.long (4609434218613702656 : Int64)), .second, .val (.long (4503599627370495 : Int64)), .second, .val (.double (4611686018427387904 : UInt64)), .second] [(.double (4611686018427387904 : UInt64))])) _
  refine own_N.retD (g := { g with stack := rest }) Yg6 (by show own_N l e s B below F g.method c T n1 n2; rw [hg]; exact X) hx hM hlk hr (hb hby own_d_jdk_128_18_127) hd ?_
  exact kk
set_option maxRecDepth 65536 in
set_option maxHeartbeats 4000000 in
theorem own_sc_v2 {p : Program} {l : Launch} {e : Env} {s B Z : State} {a0 : Array Value} {m : MethodId} {below F : List Frame} {c : Code} {T : State} {n1 n2 : Nat} (hw : ∀ d ∈ tables_1, d.before a0 Z = true) (hZ : Z.Warmed39 s.vm) (X : own_N l e s B below F m c T n1 n2) (hx : p.tables.exec = Jvm.exec) (hownm : s.vm.findClass "java/lang/StrictMath" = some m.cls) (hS : Sta s B.heap "java/lang/StrictMath" "$assertionsDisabled" "Z" (.int 1)) (hh : T.heap = B.heap) (hby : c.code = jdk_128_method_16_code) (h1 : 5 ≤ n1) (h2 : 130 ≤ n2) :
    ∃ vm', own_N l e s B below F m c (T.setVm vm') n1 n2 ∧ ∀ t, Steps p.tables e below ((T.setVm vm').setTop (mkF m 9 #[.val (.double (4609434218613702656 : UInt64)), .second] [(.double (4611686018427387904 : UInt64))])) t → Steps p.tables e below (T.setTop (mkF m 0 #[.val (.double (4609434218613702656 : UInt64)), .second] [])) t := by
  have kl1 := fun t => own_N.ldcD (args := #[]) X hx hownm (mvT hZ (hw _ (List.mem_of_getElem? (i := 40) rfl))) (g := (mkF m 1 #[.val (.double (4609434218613702656 : UInt64)), .second] [(.double (4609434218613702656 : UInt64))])) rfl (hb hby own_d_jdk_128_16_1) (t := t)
  obtain ⟨vg2, Yg2, kg2⟩ := own_fo_v2 hw hZ X hx hownm hS hh (g := (mkF m 6 #[.val (.double (4609434218613702656 : UInt64)), .second] [(.double (4607182418800017408 : UInt64)), (.double (4607182418800017408 : UInt64)), (.double (9223372036854775808 : UInt64)), (.double (4609434218613702656 : UInt64))])) rfl (rest := []) rfl (hb hby own_d_jdk_128_16_6) (by omega) rfl (by simp only [mkF, operandWords, List.foldl, Value.category, List.size_toArray, List.length]; omega)
  refine ⟨(T.setVm vg2).vm, Yg2, fun t kk => ?_⟩
  refine XS.dloadN X.here hx rfl (hb hby own_d_jdk_128_16_0) rfl ?_
  show Steps p.tables e below (T.setTop (mkF m 1 #[.val (.double (4609434218613702656 : UInt64)), .second] [(.double (4609434218613702656 : UInt64))])) _
  refine kl1 _ ?_
  show Steps p.tables e below (T.setTop (mkF m 4 #[.val (.double (4609434218613702656 : UInt64)), .second] [(.double (9223372036854775808 : UInt64)), (.double (4609434218613702656 : UInt64))])) _
  refine XS.dconst1 X.here hx rfl (hb hby own_d_jdk_128_16_4) (v := 4607182418800017408) (by decide +kernel) ?_
  show Steps p.tables e below (T.setTop (mkF m 5 #[.val (.double (4609434218613702656 : UInt64)), .second] [(.double (4607182418800017408 : UInt64)), (.double (9223372036854775808 : UInt64)), (.double (4609434218613702656 : UInt64))])) _
  refine XS.dconst1 X.here hx rfl (hb hby own_d_jdk_128_16_5) (v := 4607182418800017408) (by decide +kernel) ?_
  show Steps p.tables e below (T.setTop (mkF m 6 #[.val (.double (4609434218613702656 : UInt64)), .second] [(.double (4607182418800017408 : UInt64)), (.double (4607182418800017408 : UInt64)), (.double (9223372036854775808 : UInt64)), (.double (4609434218613702656 : UInt64))])) _
  refine kg2 _ ?_
  show Steps p.tables e below ((T.setVm vg2).setTop (mkF m 9 #[.val (.double (4609434218613702656 : UInt64)), .second] [(.double (4611686018427387904 : UInt64))])) _
  exact kk
def own_Q_own_rpct_1_3 (Z : State) (o0 : Addr) (b0 : Addr) (k0 : ClassId) (f0 : Nat → Int64) (h0 : Heap) (n0 : Nat) : Option Value → Heap → List Loc → Prop := fun v h L => ∃ (ix : Int32), v = some (.long (own_mid ix)) ∧ Fr n0 L ∧ h = h0 ∧ own_at f0 2 ix
theorem own_ef_own_rpct_1_3 (m : MethodId) (x0 : Addr) : entryFrame m #[(.ref x0), (.double (4602678819172646912 : UInt64))] 8 = mkF m 0 #[.val (.ref x0), .val (.double (4602678819172646912 : UInt64)), .second, .unset, .unset, .unset, .unset, .unset] [] := by first | (simp [entryFrame, mkF, argsToLocals, Value.category]; done) | rfl
set_option maxRecDepth 65536 in
set_option maxHeartbeats 40000000 in
theorem own_rpct_1_3 (l : Launch) (Z : State) (a0 : Array Value) (hw : ∀ d ∈ tables_1, d.before a0 Z = true) (ws : List Jvm.Cond) (o0 : Addr) (b0 : Addr) (k0 : ClassId) (f0 : Nat → Int64) (h0 : Heap) (n0 : Nat) (Z0 : n0 ≤ h0.size) (Fc0 : Fld Z h0 o0 "com/example/nocord/nocord/bench/Latencies" "counts" "[J" (.ref b0)) (Ft0 : Fld Z h0 o0 "com/example/nocord/nocord/bench/Latencies" "total" "J" (.long (3 : Int64))) (A0 : own_Arf Z h0 b0 k0 f0) (hsm : own_small f0) (hsum : own_pre f0 7296 = 3) (SA : Sta Z h0 "java/lang/StrictMath" "$assertionsDisabled" "Z" (.int (1 : Int32))) :
    MetFree l (⟨"com/example/nocord/nocord/bench/Latencies", "percentile", "(D)J"⟩ : MethodName) (head1 (Jvm.Cond.code (⟨"com/example/nocord/nocord/bench/Latencies", "percentile", "(D)J"⟩ : MethodName) prog_5_method_5_code 8 (some .long) :: ws) ({ frames := 7, cells := 0, slots := 0, locals := 132 } : Room)) (fun a U => a = #[(.ref o0), (.double (4602678819172646912 : UInt64))] ∧ Z.Warmed39 U.vm ∧ U.heap = h0) (fun _ _ _ _ _ => True) (fun _ U o U' => ∃ v L, o = .returned v ∧ (own_Q_own_rpct_1_3 Z o0 b0 k0 f0 h0 n0) v U'.heap L ∧ FrameEnd U o U' L ({ frames := 7, cells := 0, slots := 0, locals := 132 } : Room).cells ({ frames := 7, cells := 0, slots := 0, locals := 132 } : Room).slots) := by
  refine MetFree.of_bodySF (plainFor_of_name own_pn2) hisR ?_
  intro p e s m args below meth c s₁ Bd hml0 hP hK
  obtain ⟨rfl, hZ, hh⟩ := hP
  have hx := Bd.exec
  have hby := Bd.bytes
  have hml : c.maxLocals = 8 := hml0
  have hown : s.vm.findClass "com/example/nocord/nocord/bench/Latencies" = some m.cls := findClass_of_methodNamed Bd.named
  have hnm := (name_of_methodNamed Bd.named Bd.method).1
  have hlk : meth.locks = false := BodyLoose.notSynchronized Bd
  have X0 : Stand p l e ({ frames := 7, cells := 0, slots := 0, locals := 132 } : Room) s m #[(.ref o0), (.double (4602678819172646912 : UInt64))] below meth c s₁ [] 0 0 := Stand.of_body Bd
  have e0 : s₁.heap = h0 := by rw [← hh, Bd.state]; rfl
  have N0 := Fr.nil n0
  show own_Ends p e below s (own_Q_own_rpct_1_3 Z o0 b0 k0 f0 h0 n0) ({ frames := 7, cells := 0, slots := 0, locals := 132 } : Room).cells ({ frames := 7, cells := 0, slots := 0, locals := 132 } : Room).slots _
  refine own_by (V := s₁.setTop (mkF m 0 #[.val (.ref o0), .val (.double (4602678819172646912 : UInt64)), .second, .unset, .unset, .unset, .unset, .unset] [])) (fun t k => castTop (own_ef_own_rpct_1_3 m o0) k) ?_
  refine own_by (V := s₁.setTop (mkF m 1 #[.val (.ref o0), .val (.double (4602678819172646912 : UInt64)), .second, .unset, .unset, .unset, .unset, .unset] [(.long (1 : Int64))])) (fun t k => XS.lconst X0.here hx rfl (hb hby own_d_prog_5_5_0) k) ?_
  refine own_by (V := s₁.setTop (mkF m 2 #[.val (.ref o0), .val (.double (4602678819172646912 : UInt64)), .second, .unset, .unset, .unset, .unset, .unset] [(.double (4602678819172646912 : UInt64)), (.long (1 : Int64))])) (fun t k => XS.dloadN X0.here hx rfl (hb hby own_d_prog_5_5_1) rfl  k) ?_
  refine own_by (V := s₁.setTop (mkF m 3 #[.val (.ref o0), .val (.double (4602678819172646912 : UInt64)), .second, .unset, .unset, .unset, .unset, .unset] [(.ref o0), (.double (4602678819172646912 : UInt64)), (.long (1 : Int64))])) (fun t k => XS.aloadN X0.here hx rfl (hb hby own_d_prog_5_5_2) rfl rfl k) ?_
  obtain ⟨T1, X1, e1, st1⟩ := getF X0 hx hZ hown (host := "") (Or.inl (hw _ (List.mem_of_getElem? (i := 26) rfl))) Via.refl e0 Ft0 (g := (mkF m 3 #[.val (.ref o0), .val (.double (4602678819172646912 : UInt64)), .second, .unset, .unset, .unset, .unset, .unset] [(.ref o0), (.double (4602678819172646912 : UInt64)), (.long (1 : Int64))])) rfl rfl (hb hby own_d_prog_5_5_3)
  refine own_by (V := T1.setTop (mkF m 6 #[.val (.ref o0), .val (.double (4602678819172646912 : UInt64)), .second, .unset, .unset, .unset, .unset, .unset] [(.long (3 : Int64)), (.double (4602678819172646912 : UInt64)), (.long (1 : Int64))])) st1 ?_
  refine own_by (V := T1.setTop (mkF m 7 #[.val (.ref o0), .val (.double (4602678819172646912 : UInt64)), .second, .unset, .unset, .unset, .unset, .unset] [(.double (4613937818241073152 : UInt64)), (.double (4602678819172646912 : UInt64)), (.long (1 : Int64))])) (fun t k => XS.l2dS X1.here hx rfl (hb hby own_d_prog_5_5_6) rfl (v := (4613937818241073152 : UInt64)) (by decide +kernel) k) ?_
  refine own_by (V := T1.setTop (mkF m 8 #[.val (.ref o0), .val (.double (4602678819172646912 : UInt64)), .second, .unset, .unset, .unset, .unset, .unset] [(.double (4609434218613702656 : UInt64)), (.long (1 : Int64))])) (fun t k => XS.dmulS X1.here hx rfl (hb hby own_d_prog_5_5_7) rfl (by unfold Jvm.Free.Fl.NoNaN64; decide +kernel) (v := (4609434218613702656 : UInt64)) (by decide +kernel) k) ?_
  obtain ⟨T2, X2, e2, st2⟩ := own_ceilZ X1 hx (r := 4611686018427387904) e1 hown (mvT hZ (hw _ (List.mem_of_getElem? (i := 33) rfl))) (mvT hZ (hw _ (List.mem_of_getElem? (i := 34) rfl))) (mvT hZ (hw _ (List.mem_of_getElem? (i := 20) rfl))) (mvT hZ (hw _ (List.mem_of_getElem? (i := 35) rfl))) (mvT hZ (hw _ (List.mem_of_getElem? (i := 38) rfl))) (mvT hZ (hw _ (List.mem_of_getElem? (i := 39) rfl))) (own_staS hZ SA) (by decide +kernel) own_d_jdk_128_16_9 (fun Y a1 a2 a3 a4 a5 a6 => own_sc_v2 hw hZ Y hx a1 a2 a3 a4 a5 a6) (g := (mkF m 8 #[.val (.ref o0), .val (.double (4602678819172646912 : UInt64)), .second, .unset, .unset, .unset, .unset, .unset] [(.double (4609434218613702656 : UInt64)), (.long (1 : Int64))])) rfl (by rw [hml]; rfl) (rest := [(.long (1 : Int64))]) rfl (hb hby own_d_prog_5_5_8) (by decide) (by show 2 * 0 + 2 + 130 ≤ _; decide)
  refine own_by (V := T2.setTop (mkF m 11 #[.val (.ref o0), .val (.double (4602678819172646912 : UInt64)), .second, .unset, .unset, .unset, .unset, .unset] [(.double (4611686018427387904 : UInt64)), (.long (1 : Int64))])) st2 ?_
  refine own_by (V := T2.setTop (mkF m 12 #[.val (.ref o0), .val (.double (4602678819172646912 : UInt64)), .second, .unset, .unset, .unset, .unset, .unset] [(.long (2 : Int64)), (.long (1 : Int64))])) (fun t k => XS.d2lS X2.here hx rfl (hb hby own_d_prog_5_5_11) rfl (v := (2 : Int64)) (by decide +kernel) k) ?_
  obtain ⟨_, _, ⟨T3, Lq3, kq3, nq3⟩, -, X3, ⟨Lc3, hQ3, lq3, yq3, zq3⟩, st3⟩ := Jvm.LawKit.callS X2 hx (y := (⟨"java/lang/Math", "max", "(JJ)J"⟩ : MethodName)) hown (mvT hZ (hw _ (List.mem_of_getElem? (i := 18) rfl))) (mvT hZ (hw _ (List.mem_of_getElem? (i := 19) rfl))) (mvT hZ (hw _ (List.mem_of_getElem? (i := 20) rfl))) (mvT hZ (hw _ (List.mem_of_getElem? (i := 21) rfl))) (by decide) (backOf (W := 0) (own_rmax l Z a0 hw [] (1 : Int64) (2 : Int64) h0 n0) hZ (hw _ (List.mem_of_getElem? (i := 21) rfl)) (hw _ (List.mem_of_getElem? (i := 20) rfl)) (by decide) (by decide)) (g := (mkF m 12 #[.val (.ref o0), .val (.double (4602678819172646912 : UInt64)), .second, .unset, .unset, .unset, .unset, .unset] [(.long (2 : Int64)), (.long (1 : Int64))])) rfl (by rw [hml]; rfl) (argsL := [(.long (1 : Int64)), (.long (2 : Int64))]) (rest := []) (lenOf own_pd2 rfl) rfl (by show 2 * 0 + _ ≤ _; exact Nat.le_of_eq rfl) (hb hby own_d_prog_5_5_12) (fun _ _ => ⟨rfl, e2, (by decide : 0 + 0 ≤ _), (by decide : 0 + 0 ≤ _)⟩)
  dsimp only [Pt.U, Pt.locs, Pt.cells, Pt.slots] at X3 lq3 yq3 zq3 st3 hQ3
  subst lq3 yq3 zq3
  obtain ⟨rfl, N3q, e3⟩ := hQ3
  have N3 := Fr.app N0 N3q
  refine own_by (V := T3.setTop (mkF m 15 #[.val (.ref o0), .val (.double (4602678819172646912 : UInt64)), .second, .unset, .unset, .unset, .unset, .unset] [(.long (own_max (1 : Int64) (2 : Int64)))])) st3 ?_
  refine own_by (V := T3.setTop (mkF m 16 #[.val (.ref o0), .val (.double (4602678819172646912 : UInt64)), .second, .val (.long (own_max (1 : Int64) (2 : Int64))), .second, .unset, .unset, .unset] [])) (fun t k => XS.lstoreN X3.here hx rfl (hb hby own_d_prog_5_5_15) rfl (l' := #[.val (.ref o0), .val (.double (4602678819172646912 : UInt64)), .second, .val (.long (own_max (1 : Int64) (2 : Int64))), .second, .unset, .unset, .unset]) rfl k) ?_
  refine own_by (V := T3.setTop (mkF m 17 #[.val (.ref o0), .val (.double (4602678819172646912 : UInt64)), .second, .val (.long (own_max (1 : Int64) (2 : Int64))), .second, .unset, .unset, .unset] [(.long (0 : Int64))])) (fun t k => XS.lconst X3.here hx rfl (hb hby own_d_prog_5_5_16) k) ?_
  refine own_by (V := T3.setTop (mkF m 19 #[.val (.ref o0), .val (.double (4602678819172646912 : UInt64)), .second, .val (.long (own_max (1 : Int64) (2 : Int64))), .second, .val (.long (0 : Int64)), .second, .unset] [])) (fun t k => XS.lstore X3.here hx rfl (hb hby own_d_prog_5_5_17) rfl (l' := #[.val (.ref o0), .val (.double (4602678819172646912 : UInt64)), .second, .val (.long (own_max (1 : Int64) (2 : Int64))), .second, .val (.long (0 : Int64)), .second, .unset]) rfl k) ?_
  refine own_by (V := T3.setTop (mkF m 20 #[.val (.ref o0), .val (.double (4602678819172646912 : UInt64)), .second, .val (.long (own_max (1 : Int64) (2 : Int64))), .second, .val (.long (0 : Int64)), .second, .unset] [(.int (0 : Int32))])) (fun t k => XS.iconst X3.here hx rfl (hb hby own_d_prog_5_5_19) k) ?_
  refine own_by (V := T3.setTop (mkF m 22 #[.val (.ref o0), .val (.double (4602678819172646912 : UInt64)), .second, .val (.long (own_max (1 : Int64) (2 : Int64))), .second, .val (.long (0 : Int64)), .second, .val (.int (0 : Int32))] [])) (fun t k => XS.istore X3.here hx rfl (hb hby own_d_prog_5_5_20) rfl (l' := #[.val (.ref o0), .val (.double (4602678819172646912 : UInt64)), .second, .val (.long (own_max (1 : Int64) (2 : Int64))), .second, .val (.long (0 : Int64)), .second, .val (.int (0 : Int32))]) rfl k) ?_
  have J4 : ∀ (fu : Nat) (T4 : State) (l4 : List Loc) (iv : Int32) (bv : Int64) (ix : Nat) (X4 : Stand p l e ({ frames := 7, cells := 0, slots := 0, locals := 132 } : Room) s m #[(.ref o0), (.double (4602678819172646912 : UInt64))] below meth c T4 l4 0 0) (e4 : T4.heap = h0) (N4 : Fr n0 l4) (hix : iv.toInt = (ix : Int)) (hfu : ix + fu = 7296) (hbv : bv.toInt = own_pre f0 ix) (hlt : own_pre f0 ix < 2), own_Ends p e below s (own_Q_own_rpct_1_3 Z o0 b0 k0 f0 h0 n0) ({ frames := 7, cells := 0, slots := 0, locals := 132 } : Room).cells ({ frames := 7, cells := 0, slots := 0, locals := 132 } : Room).slots (T4.setTop (mkF m 22 #[.val (.ref o0), .val (.double (4602678819172646912 : UInt64)), .second, .val (.long (2 : Int64)), .second, .val (.long bv), .second, .val (.int iv)] [])) := by
    intro fu
    induction fu with
    | zero => intro T4 l4 iv bv ix X4 e4 N4 hix hfu hbv hlt; have q : ix = 7296 := (by omega); rw [q, hsum] at hlt; exact absurd hlt (by decide)
    | succ fu ih =>
      intro T4 l4 iv bv ix X4 e4 N4 hix hfu hbv hlt
      have hbk : own_bk iv := ⟨by omega, by omega⟩
      have htn := own_turn hsm (by decide) hix hbv hlt
      refine own_by (V := T4.setTop (mkF m 23 #[.val (.ref o0), .val (.double (4602678819172646912 : UInt64)), .second, .val (.long (2 : Int64)), .second, .val (.long bv), .second, .val (.int iv)] [(.ref o0)])) (fun t k => XS.aloadN X4.here hx rfl (hb hby own_d_prog_5_5_22) rfl rfl k) ?_
      obtain ⟨T5, X5, e5, st5⟩ := getF X4 hx hZ hown (host := "") (Or.inl (hw _ (List.mem_of_getElem? (i := 26) rfl))) Via.refl e4 Ft0 (g := (mkF m 23 #[.val (.ref o0), .val (.double (4602678819172646912 : UInt64)), .second, .val (.long (2 : Int64)), .second, .val (.long bv), .second, .val (.int iv)] [(.ref o0)])) rfl rfl (hb hby own_d_prog_5_5_23)
      refine own_by (V := T5.setTop (mkF m 26 #[.val (.ref o0), .val (.double (4602678819172646912 : UInt64)), .second, .val (.long (2 : Int64)), .second, .val (.long bv), .second, .val (.int iv)] [(.long (3 : Int64))])) st5 ?_
      refine own_by (V := T5.setTop (mkF m 27 #[.val (.ref o0), .val (.double (4602678819172646912 : UInt64)), .second, .val (.long (2 : Int64)), .second, .val (.long bv), .second, .val (.int iv)] [(.long (0 : Int64)), (.long (3 : Int64))])) (fun t k => XS.lconst X5.here hx rfl (hb hby own_d_prog_5_5_26) k) ?_
      refine own_by (V := T5.setTop (mkF m 28 #[.val (.ref o0), .val (.double (4602678819172646912 : UInt64)), .second, .val (.long (2 : Int64)), .second, .val (.long bv), .second, .val (.int iv)] [(.int (lcmpW (3 : Int64) (0 : Int64)))])) (fun t k => XS.lcmp X5.here hx rfl (hb hby own_d_prog_5_5_27) rfl k) ?_
      have hb28_6 : ((0 : Int32) < (lcmpW (3 : Int64) (0 : Int64))) := by decide
      refine own_by (V := T5.setTop (mkF m 31 #[.val (.ref o0), .val (.double (4602678819172646912 : UInt64)), .second, .val (.long (2 : Int64)), .second, .val (.long bv), .second, .val (.int iv)] [])) (fun t k => XS.ifNo X5.here hx rfl (hb hby own_d_prog_5_5_28) rfl ((if0 _ _).trans (tlt hb28_6).2.2.2) k) ?_
      refine own_by (V := T5.setTop (mkF m 33 #[.val (.ref o0), .val (.double (4602678819172646912 : UInt64)), .second, .val (.long (2 : Int64)), .second, .val (.long bv), .second, .val (.int iv)] [(.long bv)])) (fun t k => XS.lload X5.here hx rfl (hb hby own_d_prog_5_5_31) rfl  k) ?_
      refine own_by (V := T5.setTop (mkF m 34 #[.val (.ref o0), .val (.double (4602678819172646912 : UInt64)), .second, .val (.long (2 : Int64)), .second, .val (.long bv), .second, .val (.int iv)] [(.ref o0), (.long bv)])) (fun t k => XS.aloadN X5.here hx rfl (hb hby own_d_prog_5_5_33) rfl rfl k) ?_
      obtain ⟨T7, X7, e7, st7⟩ := getF X5 hx hZ hown (host := "") (Or.inl (hw _ (List.mem_of_getElem? (i := 11) rfl))) Via.refl e5 Fc0 (g := (mkF m 34 #[.val (.ref o0), .val (.double (4602678819172646912 : UInt64)), .second, .val (.long (2 : Int64)), .second, .val (.long bv), .second, .val (.int iv)] [(.ref o0), (.long bv)])) rfl rfl (hb hby own_d_prog_5_5_34)
      refine own_by (V := T7.setTop (mkF m 37 #[.val (.ref o0), .val (.double (4602678819172646912 : UInt64)), .second, .val (.long (2 : Int64)), .second, .val (.long bv), .second, .val (.int iv)] [(.ref b0), (.long bv)])) st7 ?_
      refine own_by (V := T7.setTop (mkF m 39 #[.val (.ref o0), .val (.double (4602678819172646912 : UInt64)), .second, .val (.long (2 : Int64)), .second, .val (.long bv), .second, .val (.int iv)] [(.int iv), (.ref b0), (.long bv)])) (fun t k => XS.iload X7.here hx rfl (hb hby own_d_prog_5_5_37) rfl  k) ?_
      obtain ⟨cl8, Ar8, qa8, Sa8, Ha8⟩ := id A0
      refine own_by (V := T7.setTop (mkF m 40 #[.val (.ref o0), .val (.double (4602678819172646912 : UInt64)), .second, .val (.long (2 : Int64)), .second, .val (.long bv), .second, .val (.int iv)] [(.long (f0 iv.toNatClampNeg)), (.long bv)])) (X7.laload hx (j := iv) (v := .long (f0 iv.toNatClampNeg)) (by rw [e7]; exact Ar8.1) (State.isArrayOf_alike hZ.alike Ar8.2.1) Ar8.2.2 (own_inb Sa8 hbk) (Ha8 _ (own_nat hbk).1) (g := (mkF m 39 #[.val (.ref o0), .val (.double (4602678819172646912 : UInt64)), .second, .val (.long (2 : Int64)), .second, .val (.long bv), .second, .val (.int iv)] [(.int iv), (.ref b0), (.long bv)])) rfl rfl (hb hby own_d_prog_5_5_39)) ?_
      refine own_by (V := T7.setTop (mkF m 41 #[.val (.ref o0), .val (.double (4602678819172646912 : UInt64)), .second, .val (.long (2 : Int64)), .second, .val (.long bv), .second, .val (.int iv)] [(.long (bv + (f0 iv.toNatClampNeg)))])) (fun t k => XS.ladd X7.here hx rfl (hb hby own_d_prog_5_5_40) rfl k) ?_
      refine own_by (V := T7.setTop (mkF m 42 #[.val (.ref o0), .val (.double (4602678819172646912 : UInt64)), .second, .val (.long (2 : Int64)), .second, .val (.long bv), .second, .val (.int iv)] [(.long (2 : Int64)), (.long (bv + (f0 iv.toNatClampNeg)))])) (fun t k => XS.lloadN X7.here hx rfl (hb hby own_d_prog_5_5_41) rfl  k) ?_
      refine own_by (V := T7.setTop (mkF m 43 #[.val (.ref o0), .val (.double (4602678819172646912 : UInt64)), .second, .val (.long (2 : Int64)), .second, .val (.long bv), .second, .val (.int iv)] [(.int (lcmpW (bv + (f0 iv.toNatClampNeg)) (2 : Int64)))])) (fun t k => XS.lcmp X7.here hx rfl (hb hby own_d_prog_5_5_42) rfl k) ?_
      by_cases hb43_9 : (lcmpW (bv + (f0 iv.toNatClampNeg)) (2 : Int64)) < (0 : Int32)
      · refine own_by (V := T7.setTop (mkF m 46 #[.val (.ref o0), .val (.double (4602678819172646912 : UInt64)), .second, .val (.long (2 : Int64)), .second, .val (.long bv), .second, .val (.int iv)] [])) (fun t k => XS.ifNo X7.here hx rfl (hb hby own_d_prog_5_5_43) rfl ((if0 _ _).trans (tlt hb43_9).2.1) k) ?_
        refine own_by (V := T7.setTop (mkF m 48 #[.val (.ref o0), .val (.double (4602678819172646912 : UInt64)), .second, .val (.long (2 : Int64)), .second, .val (.long bv), .second, .val (.int iv)] [(.long bv)])) (fun t k => XS.lload X7.here hx rfl (hb hby own_d_prog_5_5_46) rfl  k) ?_
        refine own_by (V := T7.setTop (mkF m 49 #[.val (.ref o0), .val (.double (4602678819172646912 : UInt64)), .second, .val (.long (2 : Int64)), .second, .val (.long bv), .second, .val (.int iv)] [(.ref o0), (.long bv)])) (fun t k => XS.aloadN X7.here hx rfl (hb hby own_d_prog_5_5_48) rfl rfl k) ?_
        obtain ⟨T10, X10, e10, st10⟩ := getF X7 hx hZ hown (host := "") (Or.inl (hw _ (List.mem_of_getElem? (i := 11) rfl))) Via.refl e7 Fc0 (g := (mkF m 49 #[.val (.ref o0), .val (.double (4602678819172646912 : UInt64)), .second, .val (.long (2 : Int64)), .second, .val (.long bv), .second, .val (.int iv)] [(.ref o0), (.long bv)])) rfl rfl (hb hby own_d_prog_5_5_49)
        refine own_by (V := T10.setTop (mkF m 52 #[.val (.ref o0), .val (.double (4602678819172646912 : UInt64)), .second, .val (.long (2 : Int64)), .second, .val (.long bv), .second, .val (.int iv)] [(.ref b0), (.long bv)])) st10 ?_
        refine own_by (V := T10.setTop (mkF m 54 #[.val (.ref o0), .val (.double (4602678819172646912 : UInt64)), .second, .val (.long (2 : Int64)), .second, .val (.long bv), .second, .val (.int iv)] [(.int iv), (.ref b0), (.long bv)])) (fun t k => XS.iload X10.here hx rfl (hb hby own_d_prog_5_5_52) rfl  k) ?_
        obtain ⟨cl11, Ar11, qa11, Sa11, Ha11⟩ := id A0
        refine own_by (V := T10.setTop (mkF m 55 #[.val (.ref o0), .val (.double (4602678819172646912 : UInt64)), .second, .val (.long (2 : Int64)), .second, .val (.long bv), .second, .val (.int iv)] [(.long (f0 iv.toNatClampNeg)), (.long bv)])) (X10.laload hx (j := iv) (v := .long (f0 iv.toNatClampNeg)) (by rw [e10]; exact Ar11.1) (State.isArrayOf_alike hZ.alike Ar11.2.1) Ar11.2.2 (own_inb Sa11 hbk) (Ha11 _ (own_nat hbk).1) (g := (mkF m 54 #[.val (.ref o0), .val (.double (4602678819172646912 : UInt64)), .second, .val (.long (2 : Int64)), .second, .val (.long bv), .second, .val (.int iv)] [(.int iv), (.ref b0), (.long bv)])) rfl rfl (hb hby own_d_prog_5_5_54)) ?_
        refine own_by (V := T10.setTop (mkF m 56 #[.val (.ref o0), .val (.double (4602678819172646912 : UInt64)), .second, .val (.long (2 : Int64)), .second, .val (.long bv), .second, .val (.int iv)] [(.long (bv + (f0 iv.toNatClampNeg)))])) (fun t k => XS.ladd X10.here hx rfl (hb hby own_d_prog_5_5_55) rfl k) ?_
        refine own_by (V := T10.setTop (mkF m 58 #[.val (.ref o0), .val (.double (4602678819172646912 : UInt64)), .second, .val (.long (2 : Int64)), .second, .val (.long (bv + (f0 iv.toNatClampNeg))), .second, .val (.int iv)] [])) (fun t k => XS.lstore X10.here hx rfl (hb hby own_d_prog_5_5_56) rfl (l' := #[.val (.ref o0), .val (.double (4602678819172646912 : UInt64)), .second, .val (.long (2 : Int64)), .second, .val (.long (bv + (f0 iv.toNatClampNeg))), .second, .val (.int iv)]) rfl k) ?_
        refine own_by (V := T10.setTop (mkF m 61 #[.val (.ref o0), .val (.double (4602678819172646912 : UInt64)), .second, .val (.long (2 : Int64)), .second, .val (.long (bv + (f0 iv.toNatClampNeg))), .second, .val (.int (iv + (1 : Int32)))] [])) (fun t k => XS.iinc X10.here hx rfl (hb hby own_d_prog_5_5_58) rfl (l' := #[.val (.ref o0), .val (.double (4602678819172646912 : UInt64)), .second, .val (.long (2 : Int64)), .second, .val (.long (bv + (f0 iv.toNatClampNeg))), .second, .val (.int (iv + (1 : Int32)))]) rfl k) ?_
        refine own_by (V := T10.setTop (mkF m 22 #[.val (.ref o0), .val (.double (4602678819172646912 : UInt64)), .second, .val (.long (2 : Int64)), .second, .val (.long (bv + (f0 iv.toNatClampNeg))), .second, .val (.int (iv + (1 : Int32)))] [])) (fun t k => XS.goto X10.here hx rfl (pc0 := 61) (pc' := 22) rfl (hb hby own_d_prog_5_5_61) (by decide) (by decide) k) ?_
        exact ih T10 _ (iv + (1 : Int32)) (bv + (f0 iv.toNatClampNeg)) (ix + 1) (X10.more (by decide) (by decide)) e10 N4 (own_ivinc hix (by omega)) (by omega) htn (by have q := Int64.lt_iff_toInt_lt.mp ((own_lc _ _).1.mp hb43_9); rw [htn] at q; exact q)
      · refine own_by (V := T7.setTop (mkF m 64 #[.val (.ref o0), .val (.double (4602678819172646912 : UInt64)), .second, .val (.long (2 : Int64)), .second, .val (.long bv), .second, .val (.int iv)] [])) (fun t k => XS.ifYes X7.here hx rfl (pc0 := 43) (pc' := 64) rfl (hb hby own_d_prog_5_5_43) rfl ((if0 _ _).trans (flt hb43_9).2.1) (by decide) (by decide) k) ?_
        have hat : own_at f0 2 iv := ⟨hbk, by rw [own_natx hix]; exact hlt, by rw [own_natx hix, ← htn]; exact Int.not_lt.mp fun u => hb43_9 ((own_lc _ _).1.mpr (Int64.lt_iff_toInt_lt.mpr u))⟩
        refine own_by (V := T7.setTop (mkF m 65 #[.val (.ref o0), .val (.double (4602678819172646912 : UInt64)), .second, .val (.long (2 : Int64)), .second, .val (.long bv), .second, .val (.int iv)] [(.ref o0)])) (fun t k => XS.aloadN X7.here hx rfl (hb hby own_d_prog_5_5_64) rfl rfl k) ?_
        obtain ⟨T12, X12, e12, st12⟩ := getF X7 hx hZ hown (host := "") (Or.inl (hw _ (List.mem_of_getElem? (i := 26) rfl))) Via.refl e7 Ft0 (g := (mkF m 65 #[.val (.ref o0), .val (.double (4602678819172646912 : UInt64)), .second, .val (.long (2 : Int64)), .second, .val (.long bv), .second, .val (.int iv)] [(.ref o0)])) rfl rfl (hb hby own_d_prog_5_5_65)
        refine own_by (V := T12.setTop (mkF m 68 #[.val (.ref o0), .val (.double (4602678819172646912 : UInt64)), .second, .val (.long (2 : Int64)), .second, .val (.long bv), .second, .val (.int iv)] [(.long (3 : Int64))])) st12 ?_
        refine own_by (V := T12.setTop (mkF m 69 #[.val (.ref o0), .val (.double (4602678819172646912 : UInt64)), .second, .val (.long (2 : Int64)), .second, .val (.long bv), .second, .val (.int iv)] [(.long (0 : Int64)), (.long (3 : Int64))])) (fun t k => XS.lconst X12.here hx rfl (hb hby own_d_prog_5_5_68) k) ?_
        refine own_by (V := T12.setTop (mkF m 70 #[.val (.ref o0), .val (.double (4602678819172646912 : UInt64)), .second, .val (.long (2 : Int64)), .second, .val (.long bv), .second, .val (.int iv)] [(.int (lcmpW (3 : Int64) (0 : Int64)))])) (fun t k => XS.lcmp X12.here hx rfl (hb hby own_d_prog_5_5_69) rfl k) ?_
        have hb70_13 : ((0 : Int32) < (lcmpW (3 : Int64) (0 : Int64))) := by decide
        refine own_by (V := T12.setTop (mkF m 73 #[.val (.ref o0), .val (.double (4602678819172646912 : UInt64)), .second, .val (.long (2 : Int64)), .second, .val (.long bv), .second, .val (.int iv)] [])) (fun t k => XS.ifNo X12.here hx rfl (hb hby own_d_prog_5_5_70) rfl ((if0 _ _).trans (tlt hb70_13).2.2.2) k) ?_
        refine own_by (V := T12.setTop (mkF m 75 #[.val (.ref o0), .val (.double (4602678819172646912 : UInt64)), .second, .val (.long (2 : Int64)), .second, .val (.long bv), .second, .val (.int iv)] [(.int iv)])) (fun t k => XS.iload X12.here hx rfl (hb hby own_d_prog_5_5_73) rfl  k) ?_
        obtain ⟨_, _, ⟨T14, Lq14, kq14, nq14⟩, -, X14, ⟨Lc14, hQ14, lq14, yq14, zq14⟩, st14⟩ := Jvm.LawKit.callS X12 hx (y := (⟨"com/example/nocord/nocord/bench/Latencies", "middle", "(I)J"⟩ : MethodName)) hown (mvT hZ (hw _ (List.mem_of_getElem? (i := 53) rfl))) (mvT hZ (hw _ (List.mem_of_getElem? (i := 54) rfl))) (mvT hZ (hw _ (List.mem_of_getElem? (i := 3) rfl))) (mvT hZ (hw _ (List.mem_of_getElem? (i := 55) rfl))) (by decide) (backOf (W := 0) (own_rmid l Z a0 hw [] iv h0 n0) hZ (hw _ (List.mem_of_getElem? (i := 55) rfl)) (hw _ (List.mem_of_getElem? (i := 3) rfl)) (by decide) (by decide)) (g := (mkF m 75 #[.val (.ref o0), .val (.double (4602678819172646912 : UInt64)), .second, .val (.long (2 : Int64)), .second, .val (.long bv), .second, .val (.int iv)] [(.int iv)])) rfl (by rw [hml]; rfl) (argsL := [(.int iv)]) (rest := []) (lenOf own_pd5 rfl) rfl (by show 2 * 0 + _ ≤ _; exact Nat.le_of_eq rfl) (hb hby own_d_prog_5_5_75) (fun _ _ => ⟨rfl, e12, (by decide : 0 + 0 ≤ _), (by decide : 0 + 0 ≤ _)⟩)
        dsimp only [Pt.U, Pt.locs, Pt.cells, Pt.slots] at X14 lq14 yq14 zq14 st14 hQ14
        subst lq14 yq14 zq14
        obtain ⟨rfl, N14q, e14⟩ := hQ14
        have N14 := Fr.app N4 N14q
        refine own_by (V := T14.setTop (mkF m 78 #[.val (.ref o0), .val (.double (4602678819172646912 : UInt64)), .second, .val (.long (2 : Int64)), .second, .val (.long bv), .second, .val (.int iv)] [(.long (own_mid iv))])) st14 ?_
        refine own_by (V := T14.setTop (mkF m 82 #[.val (.ref o0), .val (.double (4602678819172646912 : UInt64)), .second, .val (.long (2 : Int64)), .second, .val (.long bv), .second, .val (.int iv)] [(.long (own_mid iv))])) (fun t k => XS.goto X14.here hx rfl (pc0 := 78) (pc' := 82) rfl (hb hby own_d_prog_5_5_78) (by decide) (by decide) k) ?_
        refine own_retL X14 hx hlk e14 Bd.returns (hb hby own_d_prog_5_5_82) ?_ (by decide) (by decide)
        exact ⟨iv, rfl, N14, rfl, hat⟩
  rw [show (own_max (1 : Int64) (2 : Int64)) = (2 : Int64) from by decide +kernel]
  exact J4 7296 T3 _ (0 : Int32) (0 : Int64) 0 (X3.more (by decide) (by decide)) e3 N3 rfl rfl rfl (by show (0 : Int) < 2; decide)
set_option maxRecDepth 65536 in
set_option maxHeartbeats 4000000 in
theorem own_ge_v3 {p : Program} {l : Launch} {e : Env} {s B Z : State} {a0 : Array Value} {m : MethodId} {below F : List Frame} {c : Code} {T : State} {n1 n2 : Nat} (hw : ∀ d ∈ tables_1, d.before a0 Z = true) (hZ : Z.Warmed39 s.vm) (X : own_N l e s B below F m c T n1 n2) (hx : p.tables.exec = Jvm.exec) (hown : s.vm.findClass "java/lang/StrictMath" = some m.cls) {g : JFrame} (hg : g.method = m) {rest : List Value} (hs : g.stack = (.double (4613937818241073152 : UInt64)) :: rest) (hd : decode c.code g.pc = .ok (.invokestatic 66, 3)) (h1 : 3 ≤ n1) {w : Nat} (hwd : g.locals.size + 11 + 2 * g.monitorRoom + operandWords rest = w) (h2 : w + 39 ≤ n2) :
    ∃ vm', own_N l e s B below F m c (T.setVm vm') n1 n2 ∧ ∀ t, Steps p.tables e below ((T.setVm vm').setTop { g with pc := g.pc + 3, stack := (.int (1 : Int32)) :: rest }) t → Steps p.tables e below (T.setTop g) t := by
  obtain ⟨m', M, cd, U0, Y0, hownm', hM, hlk, hr, hby, k⟩ := X.scall (args := #[]) hx hown (mvT hZ (hw _ (List.mem_of_getElem? (i := 44) rfl))) (mvT hZ (hw _ (List.mem_of_getElem? (i := 45) rfl))) (mvT hZ (hw _ (List.mem_of_getElem? (i := 20) rfl))) (mvT hZ (hw _ (List.mem_of_getElem? (i := 46) rfl))) (Jvm.Free.JP.mathPlain rfl (by decide +kernel)) (by decide) hg (aL := [(.double (4613937818241073152 : UInt64))]) (rest := rest) (fun sig h => by rw [own_pd3] at h; rw [← Option.some.inj h]; rfl) hs hd (by omega) hwd (by omega)
  replace hownm' : s.vm.findClass "java/lang/Math" = some m'.cls := hownm'
  obtain ⟨vg1, Yg1, kg1⟩ := Y0.raw (args := #[]) hx hownm' (mvT hZ (hw _ (List.mem_of_getElem? (i := 47) rfl))) (mvT hZ (hw _ (List.mem_of_getElem? (i := 50) rfl))) (mvT hZ (hw _ (List.mem_of_getElem? (i := 48) rfl))) (mvT hZ (hw _ (List.mem_of_getElem? (i := 49) rfl))) (g := (mkF m' 1 #[.val (.double (4613937818241073152 : UInt64)), .second] [(.double (4613937818241073152 : UInt64))])) rfl (rest := []) rfl (hb hby own_d_jdk_29_92_1) (by omega) (by simp only [mkF, operandWords, List.foldl, Value.category, List.size_toArray, List.length]; omega)
  have kl2 := fun t => own_N.ldcL (args := #[]) Yg1 hx hownm' (mvT hZ (hw _ (List.mem_of_getElem? (i := 51) rfl))) (g := (mkF m' 4 #[.val (.double (4613937818241073152 : UInt64)), .second] [(.long (4613937818241073152 : Int64))])) rfl (hb hby own_d_jdk_29_92_4) (t := t)
  have kl3 := fun t => own_N.ldcL (args := #[]) Yg1 hx hownm' (mvT hZ (hw _ (List.mem_of_getElem? (i := 52) rfl))) (g := (mkF m' 11 #[.val (.double (4613937818241073152 : UInt64)), .second] [(.long (1024 : Int64))])) rfl (hb hby own_d_jdk_29_92_11) (t := t)
  refine ⟨(U0.setVm vg1).vm, X.noted Yg1.warmed, fun t kk => k t ?_⟩
  have ef : entryFrame m' ([(.double (4613937818241073152 : UInt64))] : List Value).toArray 2 = (mkF m' 0 #[.val (.double (4613937818241073152 : UInt64)), .second] []) := by first | (simp [entryFrame, mkF, argsToLocals, Value.category]; done) | rfl
  rw [ef]
  refine XS.dloadN Y0.here hx rfl (hb hby own_d_jdk_29_92_0) rfl ?_
  show Steps p.tables e below (U0.setTop (mkF m' 1 #[.val (.double (4613937818241073152 : UInt64)), .second] [(.double (4613937818241073152 : UInt64))])) _
  refine kg1 _ ?_
  refine own_cast (v := (.long (4613937818241073152 : UInt64).toInt64)) (w := (.long (4613937818241073152 : Int64))) (m := m') (pc := 4) (L := #[.val (.double (4613937818241073152 : UInt64)), .second]) (S := []) (congrArg Value.long (by decide +kernel)) ?_
  refine kl2 _ ?_
  show Steps p.tables e below ((U0.setVm vg1).setTop (mkF m' 7 #[.val (.double (4613937818241073152 : UInt64)), .second] [(.long (9218868437227405312 : Int64)), (.long (4613937818241073152 : Int64))])) _
  refine XS.land Yg1.here hx rfl (hb hby own_d_jdk_29_92_7) rfl ?_
  refine own_cast (v := (.long ((4613937818241073152 : Int64) &&& (9218868437227405312 : Int64)))) (w := (.long (4611686018427387904 : Int64))) (m := m') (pc := 8) (L := #[.val (.double (4613937818241073152 : UInt64)), .second]) (S := []) (congrArg Value.long (by decide +kernel)) ?_
  refine XS.bipush Yg1.here hx rfl (hb hby own_d_jdk_29_92_8) ?_
  show Steps p.tables e below ((U0.setVm vg1).setTop (mkF m' 10 #[.val (.double (4613937818241073152 : UInt64)), .second] [(.int (52 : Int32)), (.long (4611686018427387904 : Int64))])) _
  refine XS.lshr Yg1.here hx rfl (hb hby own_d_jdk_29_92_10) rfl ?_
  refine own_cast (v := (.long ((4611686018427387904 : Int64) >>> ((52 : Int32) &&& 0x3f).toInt64))) (w := (.long (1024 : Int64))) (m := m') (pc := 11) (L := #[.val (.double (4613937818241073152 : UInt64)), .second]) (S := []) (congrArg Value.long (by decide +kernel)) ?_
  refine kl3 _ ?_
  show Steps p.tables e below ((U0.setVm vg1).setTop (mkF m' 14 #[.val (.double (4613937818241073152 : UInt64)), .second] [(.long (1023 : Int64)), (.long (1024 : Int64))])) _
  refine XS.lsub Yg1.here hx rfl (hb hby own_d_jdk_29_92_14) rfl ?_
  refine own_cast (v := (.long ((1024 : Int64) - (1023 : Int64)))) (w := (.long (1 : Int64))) (m := m') (pc := 15) (L := #[.val (.double (4613937818241073152 : UInt64)), .second]) (S := []) (congrArg Value.long (by decide +kernel)) ?_
  refine XS.l2i Yg1.here hx rfl (hb hby own_d_jdk_29_92_15) rfl ?_
  refine own_cast (v := (.int (1 : Int64).toInt32)) (w := (.int (1 : Int32))) (m := m') (pc := 16) (L := #[.val (.double (4613937818241073152 : UInt64)), .second]) (S := []) (congrArg Value.int (by decide +kernel)) ?_
  refine own_N.retI (g := { g with stack := rest }) Yg1 (by show own_N l e s B below F g.method c T n1 n2; rw [hg]; exact X) hx hM hlk hr (hb hby own_d_jdk_29_92_16) hd ?_
  exact kk
set_option maxRecDepth 65536 in
set_option maxHeartbeats 4000000 in
theorem own_fo_v3 {p : Program} {l : Launch} {e : Env} {s B Z : State} {a0 : Array Value} {m : MethodId} {below F : List Frame} {c : Code} {T : State} {n1 n2 : Nat} (hw : ∀ d ∈ tables_1, d.before a0 Z = true) (hZ : Z.Warmed39 s.vm) (X : own_N l e s B below F m c T n1 n2) (hx : p.tables.exec = Jvm.exec) (hown : s.vm.findClass "java/lang/StrictMath" = some m.cls) (hS : Sta s B.heap "java/lang/StrictMath" "$assertionsDisabled" "Z" (.int 1)) (hh : T.heap = B.heap) {g : JFrame} (hg : g.method = m) {rest : List Value} (hs : g.stack = (.double (4607182418800017408 : UInt64)) :: (.double (4607182418800017408 : UInt64)) :: (.double (9223372036854775808 : UInt64)) :: (.double (4613937818241073152 : UInt64)) :: rest) (hd : decode c.code g.pc = .ok (.invokestatic 60, 3)) (h1 : 4 ≤ n1) {w : Nat} (hwd : g.locals.size + 11 + 2 * g.monitorRoom + operandWords rest = w) (h2 : w + 86 ≤ n2) :
    ∃ vm', own_N l e s B below F m c (T.setVm vm') n1 n2 ∧ ∀ t, Steps p.tables e below ((T.setVm vm').setTop { g with pc := g.pc + 3, stack := (.double (4613937818241073152 : UInt64)) :: rest }) t → Steps p.tables e below (T.setTop g) t := by
  obtain ⟨m', M, cd, U0, Y0, hownm', hM, hlk, hr, hby, k⟩ := X.scall (args := #[]) hx hown (mvT hZ (hw _ (List.mem_of_getElem? (i := 41) rfl))) (mvT hZ (hw _ (List.mem_of_getElem? (i := 42) rfl))) (mvT hZ (hw _ (List.mem_of_getElem? (i := 38) rfl))) (mvT hZ (hw _ (List.mem_of_getElem? (i := 43) rfl))) (plainFor_of_name (by decide +kernel)) (by decide) hg (aL := [(.double (4613937818241073152 : UInt64)), (.double (9223372036854775808 : UInt64)), (.double (4607182418800017408 : UInt64)), (.double (4607182418800017408 : UInt64))]) (rest := rest) (fun sig h => by rw [own_pd4] at h; rw [← Option.some.inj h]; rfl) hs hd (by omega) hwd (by omega)
  replace hownm' : s.vm.findClass "java/lang/StrictMath" = some m'.cls := hownm'
  obtain ⟨vg1, Yg1, kg1⟩ := own_ge_v3 hw hZ Y0 hx hownm' (g := (mkF m' 1 #[.val (.double (4613937818241073152 : UInt64)), .second, .val (.double (9223372036854775808 : UInt64)), .second, .val (.double (4607182418800017408 : UInt64)), .second, .val (.double (4607182418800017408 : UInt64)), .second, .unset, .unset, .unset, .unset, .unset, .unset, .unset] [(.double (4613937818241073152 : UInt64))])) rfl (rest := []) rfl (hb hby own_d_jdk_128_18_1) (by omega) rfl (by simp only [mkF, operandWords, List.foldl, Value.category, List.size_toArray, List.length]; omega)
  obtain ⟨vg2, Yg2, kg2⟩ := Yg1.getst (args := #[]) (v := .int 1) hx hownm' (mvT hZ (hw _ (List.mem_of_getElem? (i := 56) rfl))) (by rw [Yg1.heapEq, hh]; exact hS) (g := (mkF m' 43 #[.val (.double (4613937818241073152 : UInt64)), .second, .val (.double (9223372036854775808 : UInt64)), .second, .val (.double (4607182418800017408 : UInt64)), .second, .val (.double (4607182418800017408 : UInt64)), .second, .val (.int (1 : Int32)), .unset, .unset, .unset, .unset, .unset, .unset] [])) rfl (hb hby own_d_jdk_128_18_43)
  obtain ⟨vg3, Yg3, kg3⟩ := Yg2.raw (args := #[]) hx hownm' (mvT hZ (hw _ (List.mem_of_getElem? (i := 57) rfl))) (mvT hZ (hw _ (List.mem_of_getElem? (i := 50) rfl))) (mvT hZ (hw _ (List.mem_of_getElem? (i := 48) rfl))) (mvT hZ (hw _ (List.mem_of_getElem? (i := 49) rfl))) (g := (mkF m' 70 #[.val (.double (4613937818241073152 : UInt64)), .second, .val (.double (9223372036854775808 : UInt64)), .second, .val (.double (4607182418800017408 : UInt64)), .second, .val (.double (4607182418800017408 : UInt64)), .second, .val (.int (1 : Int32)), .unset, .unset, .unset, .unset, .unset, .unset] [(.double (4613937818241073152 : UInt64))])) rfl (rest := []) rfl (hb hby own_d_jdk_128_18_70) (by omega) (by simp only [mkF, operandWords, List.foldl, Value.category, List.size_toArray, List.length]; omega)
  have kl4 := fun t => own_N.ldcL (args := #[]) Yg3 hx hownm' (mvT hZ (hw _ (List.mem_of_getElem? (i := 58) rfl))) (g := (mkF m' 75 #[.val (.double (4613937818241073152 : UInt64)), .second, .val (.double (9223372036854775808 : UInt64)), .second, .val (.double (4607182418800017408 : UInt64)), .second, .val (.double (4607182418800017408 : UInt64)), .second, .val (.int (1 : Int32)), .val (.long (4613937818241073152 : Int64)), .second, .unset, .unset, .unset, .unset] [])) rfl (hb hby own_d_jdk_128_18_75) (t := t)
  refine ⟨(((U0.setVm vg1).setVm vg2).setVm vg3).vm, X.noted Yg3.warmed, fun t kk => k t ?_⟩
  have ef : entryFrame m' ([(.double (4613937818241073152 : UInt64)), (.double (9223372036854775808 : UInt64)), (.double (4607182418800017408 : UInt64)), (.double (4607182418800017408 : UInt64))] : List Value).toArray 15 = (mkF m' 0 #[.val (.double (4613937818241073152 : UInt64)), .second, .val (.double (9223372036854775808 : UInt64)), .second, .val (.double (4607182418800017408 : UInt64)), .second, .val (.double (4607182418800017408 : UInt64)), .second, .unset, .unset, .unset, .unset, .unset, .unset, .unset] []) := by first | (simp [entryFrame, mkF, argsToLocals, Value.category]; done) | rfl
  rw [ef]
  refine XS.dloadN Y0.here hx rfl (hb hby own_d_jdk_128_18_0) rfl ?_
  show Steps p.tables e below (U0.setTop (mkF m' 1 #[.val (.double (4613937818241073152 : UInt64)), .second, .val (.double (9223372036854775808 : UInt64)), .second, .val (.double (4607182418800017408 : UInt64)), .second, .val (.double (4607182418800017408 : UInt64)), .second, .unset, .unset, .unset, .unset, .unset, .unset, .unset] [(.double (4613937818241073152 : UInt64))])) _
  refine kg1 _ ?_
  show Steps p.tables e below ((U0.setVm vg1).setTop (mkF m' 4 #[.val (.double (4613937818241073152 : UInt64)), .second, .val (.double (9223372036854775808 : UInt64)), .second, .val (.double (4607182418800017408 : UInt64)), .second, .val (.double (4607182418800017408 : UInt64)), .second, .unset, .unset, .unset, .unset, .unset, .unset, .unset] [(.int (1 : Int32))])) _
  refine XS.istore Yg1.here hx rfl (hb hby own_d_jdk_128_18_4) rfl (l' := #[.val (.double (4613937818241073152 : UInt64)), .second, .val (.double (9223372036854775808 : UInt64)), .second, .val (.double (4607182418800017408 : UInt64)), .second, .val (.double (4607182418800017408 : UInt64)), .second, .val (.int (1 : Int32)), .unset, .unset, .unset, .unset, .unset, .unset]) rfl ?_
  show Steps p.tables e below ((U0.setVm vg1).setTop (mkF m' 6 #[.val (.double (4613937818241073152 : UInt64)), .second, .val (.double (9223372036854775808 : UInt64)), .second, .val (.double (4607182418800017408 : UInt64)), .second, .val (.double (4607182418800017408 : UInt64)), .second, .val (.int (1 : Int32)), .unset, .unset, .unset, .unset, .unset, .unset] [])) _
  refine XS.iload Yg1.here hx rfl (hb hby own_d_jdk_128_18_6) rfl ?_
  show Steps p.tables e below ((U0.setVm vg1).setTop (mkF m' 8 #[.val (.double (4613937818241073152 : UInt64)), .second, .val (.double (9223372036854775808 : UInt64)), .second, .val (.double (4607182418800017408 : UInt64)), .second, .val (.double (4607182418800017408 : UInt64)), .second, .val (.int (1 : Int32)), .unset, .unset, .unset, .unset, .unset, .unset] [(.int (1 : Int32))])) _
  refine XS.ifYes Yg1.here hx rfl (pc0 := 8) (pc' := 34) rfl (hb hby own_d_jdk_128_18_8) rfl (by decide +kernel) (by decide) (by decide) ?_
  show Steps p.tables e below ((U0.setVm vg1).setTop (mkF m' 34 #[.val (.double (4613937818241073152 : UInt64)), .second, .val (.double (9223372036854775808 : UInt64)), .second, .val (.double (4607182418800017408 : UInt64)), .second, .val (.double (4607182418800017408 : UInt64)), .second, .val (.int (1 : Int32)), .unset, .unset, .unset, .unset, .unset, .unset] [])) _
  refine XS.iload Yg1.here hx rfl (hb hby own_d_jdk_128_18_34) rfl ?_
  show Steps p.tables e below ((U0.setVm vg1).setTop (mkF m' 36 #[.val (.double (4613937818241073152 : UInt64)), .second, .val (.double (9223372036854775808 : UInt64)), .second, .val (.double (4607182418800017408 : UInt64)), .second, .val (.double (4607182418800017408 : UInt64)), .second, .val (.int (1 : Int32)), .unset, .unset, .unset, .unset, .unset, .unset] [(.int (1 : Int32))])) _
  refine XS.bipush Yg1.here hx rfl (hb hby own_d_jdk_128_18_36) ?_
  show Steps p.tables e below ((U0.setVm vg1).setTop (mkF m' 38 #[.val (.double (4613937818241073152 : UInt64)), .second, .val (.double (9223372036854775808 : UInt64)), .second, .val (.double (4607182418800017408 : UInt64)), .second, .val (.double (4607182418800017408 : UInt64)), .second, .val (.int (1 : Int32)), .unset, .unset, .unset, .unset, .unset, .unset] [(.int (52 : Int32)), (.int (1 : Int32))])) _
  refine XS.icmpYes Yg1.here hx rfl (pc0 := 38) (pc' := 43) rfl (hb hby own_d_jdk_128_18_38) rfl (by decide +kernel) (by decide) (by decide) ?_
  show Steps p.tables e below ((U0.setVm vg1).setTop (mkF m' 43 #[.val (.double (4613937818241073152 : UInt64)), .second, .val (.double (9223372036854775808 : UInt64)), .second, .val (.double (4607182418800017408 : UInt64)), .second, .val (.double (4607182418800017408 : UInt64)), .second, .val (.int (1 : Int32)), .unset, .unset, .unset, .unset, .unset, .unset] [])) _
  refine kg2 _ ?_
  show Steps p.tables e below (((U0.setVm vg1).setVm vg2).setTop (mkF m' 46 #[.val (.double (4613937818241073152 : UInt64)), .second, .val (.double (9223372036854775808 : UInt64)), .second, .val (.double (4607182418800017408 : UInt64)), .second, .val (.double (4607182418800017408 : UInt64)), .second, .val (.int (1 : Int32)), .unset, .unset, .unset, .unset, .unset, .unset] [(.int (1 : Int32))])) _
  refine XS.ifYes Yg2.here hx rfl (pc0 := 46) (pc' := 69) rfl (hb hby own_d_jdk_128_18_46) rfl (by decide +kernel) (by decide) (by decide) ?_
  show Steps p.tables e below (((U0.setVm vg1).setVm vg2).setTop (mkF m' 69 #[.val (.double (4613937818241073152 : UInt64)), .second, .val (.double (9223372036854775808 : UInt64)), .second, .val (.double (4607182418800017408 : UInt64)), .second, .val (.double (4607182418800017408 : UInt64)), .second, .val (.int (1 : Int32)), .unset, .unset, .unset, .unset, .unset, .unset] [])) _
  refine XS.dloadN Yg2.here hx rfl (hb hby own_d_jdk_128_18_69) rfl ?_
  show Steps p.tables e below (((U0.setVm vg1).setVm vg2).setTop (mkF m' 70 #[.val (.double (4613937818241073152 : UInt64)), .second, .val (.double (9223372036854775808 : UInt64)), .second, .val (.double (4607182418800017408 : UInt64)), .second, .val (.double (4607182418800017408 : UInt64)), .second, .val (.int (1 : Int32)), .unset, .unset, .unset, .unset, .unset, .unset] [(.double (4613937818241073152 : UInt64))])) _
  refine kg3 _ ?_
  refine own_cast (v := (.long (4613937818241073152 : UInt64).toInt64)) (w := (.long (4613937818241073152 : Int64))) (m := m') (pc := 73) (L := #[.val (.double (4613937818241073152 : UInt64)), .second, .val (.double (9223372036854775808 : UInt64)), .second, .val (.double (4607182418800017408 : UInt64)), .second, .val (.double (4607182418800017408 : UInt64)), .second, .val (.int (1 : Int32)), .unset, .unset, .unset, .unset, .unset, .unset]) (S := []) (congrArg Value.long (by decide +kernel)) ?_
  refine XS.lstore Yg3.here hx rfl (hb hby own_d_jdk_128_18_73) rfl (l' := #[.val (.double (4613937818241073152 : UInt64)), .second, .val (.double (9223372036854775808 : UInt64)), .second, .val (.double (4607182418800017408 : UInt64)), .second, .val (.double (4607182418800017408 : UInt64)), .second, .val (.int (1 : Int32)), .val (.long (4613937818241073152 : Int64)), .second, .unset, .unset, .unset, .unset]) rfl ?_
  show Steps p.tables e below ((((U0.setVm vg1).setVm vg2).setVm vg3).setTop (mkF m' 75 #[.val (.double (4613937818241073152 : UInt64)), .second, .val (.double (9223372036854775808 : UInt64)), .second, .val (.double (4607182418800017408 : UInt64)), .second, .val (.double (4607182418800017408 : UInt64)), .second, .val (.int (1 : Int32)), .val (.long (4613937818241073152 : Int64)), .second, .unset, .unset, .unset, .unset] [])) _
  refine kl4 _ ?_
  show Steps p.tables e below ((((U0.setVm vg1).setVm vg2).setVm vg3).setTop (mkF m' 78 #[.val (.double (4613937818241073152 : UInt64)), .second, .val (.double (9223372036854775808 : UInt64)), .second, .val (.double (4607182418800017408 : UInt64)), .second, .val (.double (4607182418800017408 : UInt64)), .second, .val (.int (1 : Int32)), .val (.long (4613937818241073152 : Int64)), .second, .unset, .unset, .unset, .unset] [(.long (4503599627370495 : Int64))])) _
  refine XS.iload Yg3.here hx rfl (hb hby own_d_jdk_128_18_78) rfl ?_
  show Steps p.tables e below ((((U0.setVm vg1).setVm vg2).setVm vg3).setTop (mkF m' 80 #[.val (.double (4613937818241073152 : UInt64)), .second, .val (.double (9223372036854775808 : UInt64)), .second, .val (.double (4607182418800017408 : UInt64)), .second, .val (.double (4607182418800017408 : UInt64)), .second, .val (.int (1 : Int32)), .val (.long (4613937818241073152 : Int64)), .second, .unset, .unset, .unset, .unset] [(.int (1 : Int32)), (.long (4503599627370495 : Int64))])) _
  refine XS.lshr Yg3.here hx rfl (hb hby own_d_jdk_128_18_80) rfl ?_
  refine own_cast (v := (.long ((4503599627370495 : Int64) >>> ((1 : Int32) &&& 0x3f).toInt64))) (w := (.long (2251799813685247 : Int64))) (m := m') (pc := 81) (L := #[.val (.double (4613937818241073152 : UInt64)), .second, .val (.double (9223372036854775808 : UInt64)), .second, .val (.double (4607182418800017408 : UInt64)), .second, .val (.double (4607182418800017408 : UInt64)), .second, .val (.int (1 : Int32)), .val (.long (4613937818241073152 : Int64)), .second, .unset, .unset, .unset, .unset]) (S := []) (congrArg Value.long (by decide +kernel)) ?_
  refine XS.lstore Yg3.here hx rfl (hb hby own_d_jdk_128_18_81) rfl (l' := #[.val (.double (4613937818241073152 : UInt64)), .second, .val (.double (9223372036854775808 : UInt64)), .second, .val (.double (4607182418800017408 : UInt64)), .second, .val (.double (4607182418800017408 : UInt64)), .second, .val (.int (1 : Int32)), .val (.long (4613937818241073152 : Int64)), .second, .val (.long (2251799813685247 : Int64)), .second, .unset, .unset]) rfl ?_
  show Steps p.tables e below ((((U0.setVm vg1).setVm vg2).setVm vg3).setTop (mkF m' 83 #[.val (.double (4613937818241073152 : UInt64)), .second, .val (.double (9223372036854775808 : UInt64)), .second, .val (.double (4607182418800017408 : UInt64)), .second, .val (.double (4607182418800017408 : UInt64)), .second, .val (.int (1 : Int32)), .val (.long (4613937818241073152 : Int64)), .second, .val (.long (2251799813685247 : Int64)), .second, .unset, .unset] [])) _
  refine XS.lload Yg3.here hx rfl (hb hby own_d_jdk_128_18_83) rfl ?_
  show Steps p.tables e below ((((U0.setVm vg1).setVm vg2).setVm vg3).setTop (mkF m' 85 #[.val (.double (4613937818241073152 : UInt64)), .second, .val (.double (9223372036854775808 : UInt64)), .second, .val (.double (4607182418800017408 : UInt64)), .second, .val (.double (4607182418800017408 : UInt64)), .second, .val (.int (1 : Int32)), .val (.long (4613937818241073152 : Int64)), .second, .val (.long (2251799813685247 : Int64)), .second, .unset, .unset] [(.long (2251799813685247 : Int64))])) _
  refine XS.lload Yg3.here hx rfl (hb hby own_d_jdk_128_18_85) rfl ?_
  show Steps p.tables e below ((((U0.setVm vg1).setVm vg2).setVm vg3).setTop (mkF m' 87 #[.val (.double (4613937818241073152 : UInt64)), .second, .val (.double (9223372036854775808 : UInt64)), .second, .val (.double (4607182418800017408 : UInt64)), .second, .val (.double (4607182418800017408 : UInt64)), .second, .val (.int (1 : Int32)), .val (.long (4613937818241073152 : Int64)), .second, .val (.long (2251799813685247 : Int64)), .second, .unset, .unset] [(.long (4613937818241073152 : Int64)), (.long (2251799813685247 : Int64))])) _
  refine XS.land Yg3.here hx rfl (hb hby own_d_jdk_128_18_87) rfl ?_
  refine own_cast (v := (.long ((2251799813685247 : Int64) &&& (4613937818241073152 : Int64)))) (w := (.long (0 : Int64))) (m := m') (pc := 88) (L := #[.val (.double (4613937818241073152 : UInt64)), .second, .val (.double (9223372036854775808 : UInt64)), .second, .val (.double (4607182418800017408 : UInt64)), .second, .val (.double (4607182418800017408 : UInt64)), .second, .val (.int (1 : Int32)), .val (.long (4613937818241073152 : Int64)), .second, .val (.long (2251799813685247 : Int64)), .second, .unset, .unset]) (S := []) (congrArg Value.long (by decide +kernel)) ?_
  refine XS.lconst Yg3.here hx rfl (hb hby own_d_jdk_128_18_88) ?_
  show Steps p.tables e below ((((U0.setVm vg1).setVm vg2).setVm vg3).setTop (mkF m' 89 #[.val (.double (4613937818241073152 : UInt64)), .second, .val (.double (9223372036854775808 : UInt64)), .second, .val (.double (4607182418800017408 : UInt64)), .second, .val (.double (4607182418800017408 : UInt64)), .second, .val (.int (1 : Int32)), .val (.long (4613937818241073152 : Int64)), .second, .val (.long (2251799813685247 : Int64)), .second, .unset, .unset] [(.long (0 : Int64)), (.long (0 : Int64))])) _
  refine XS.lcmp Yg3.here hx rfl (hb hby own_d_jdk_128_18_89) rfl ?_
  refine own_cast (v := (.int (lcmpW (0 : Int64) (0 : Int64)))) (w := (.int (0 : Int32))) (m := m') (pc := 90) (L := #[.val (.double (4613937818241073152 : UInt64)), .second, .val (.double (9223372036854775808 : UInt64)), .second, .val (.double (4607182418800017408 : UInt64)), .second, .val (.double (4607182418800017408 : UInt64)), .second, .val (.int (1 : Int32)), .val (.long (4613937818241073152 : Int64)), .second, .val (.long (2251799813685247 : Int64)), .second, .unset, .unset]) (S := []) (congrArg Value.int (by decide +kernel)) ?_
  refine XS.ifNo Yg3.here hx rfl (hb hby own_d_jdk_128_18_90) rfl (by decide +kernel) ?_
  show Steps p.tables e below ((((U0.setVm vg1).setVm vg2).setVm vg3).setTop (mkF m' 93 #[.val (.double (4613937818241073152 : UInt64)), .second, .val (.double (9223372036854775808 : UInt64)), .second, .val (.double (4607182418800017408 : UInt64)), .second, .val (.double (4607182418800017408 : UInt64)), .second, .val (.int (1 : Int32)), .val (.long (4613937818241073152 : Int64)), .second, .val (.long (2251799813685247 : Int64)), .second, .unset, .unset] [])) _
  refine XS.dloadN Yg3.here hx rfl (hb hby own_d_jdk_128_18_93) rfl ?_
  show Steps p.tables e below ((((U0.setVm vg1).setVm vg2).setVm vg3).setTop (mkF m' 94 #[.val (.double (4613937818241073152 : UInt64)), .second, .val (.double (9223372036854775808 : UInt64)), .second, .val (.double (4607182418800017408 : UInt64)), .second, .val (.double (4607182418800017408 : UInt64)), .second, .val (.int (1 : Int32)), .val (.long (4613937818241073152 : Int64)), .second, .val (.long (2251799813685247 : Int64)), .second, .unset, .unset] [(.double (4613937818241073152 : UInt64))])) _
  refine own_N.retD (g := { g with stack := rest }) Yg3 (by show own_N l e s B below F g.method c T n1 n2; rw [hg]; exact X) hx hM hlk hr (hb hby own_d_jdk_128_18_94) hd ?_
  exact kk
set_option maxRecDepth 65536 in
set_option maxHeartbeats 4000000 in
theorem own_sc_v3 {p : Program} {l : Launch} {e : Env} {s B Z : State} {a0 : Array Value} {m : MethodId} {below F : List Frame} {c : Code} {T : State} {n1 n2 : Nat} (hw : ∀ d ∈ tables_1, d.before a0 Z = true) (hZ : Z.Warmed39 s.vm) (X : own_N l e s B below F m c T n1 n2) (hx : p.tables.exec = Jvm.exec) (hownm : s.vm.findClass "java/lang/StrictMath" = some m.cls) (hS : Sta s B.heap "java/lang/StrictMath" "$assertionsDisabled" "Z" (.int 1)) (hh : T.heap = B.heap) (hby : c.code = jdk_128_method_16_code) (h1 : 5 ≤ n1) (h2 : 130 ≤ n2) :
    ∃ vm', own_N l e s B below F m c (T.setVm vm') n1 n2 ∧ ∀ t, Steps p.tables e below ((T.setVm vm').setTop (mkF m 9 #[.val (.double (4613937818241073152 : UInt64)), .second] [(.double (4613937818241073152 : UInt64))])) t → Steps p.tables e below (T.setTop (mkF m 0 #[.val (.double (4613937818241073152 : UInt64)), .second] [])) t := by
  have kl1 := fun t => own_N.ldcD (args := #[]) X hx hownm (mvT hZ (hw _ (List.mem_of_getElem? (i := 40) rfl))) (g := (mkF m 1 #[.val (.double (4613937818241073152 : UInt64)), .second] [(.double (4613937818241073152 : UInt64))])) rfl (hb hby own_d_jdk_128_16_1) (t := t)
  obtain ⟨vg2, Yg2, kg2⟩ := own_fo_v3 hw hZ X hx hownm hS hh (g := (mkF m 6 #[.val (.double (4613937818241073152 : UInt64)), .second] [(.double (4607182418800017408 : UInt64)), (.double (4607182418800017408 : UInt64)), (.double (9223372036854775808 : UInt64)), (.double (4613937818241073152 : UInt64))])) rfl (rest := []) rfl (hb hby own_d_jdk_128_16_6) (by omega) rfl (by simp only [mkF, operandWords, List.foldl, Value.category, List.size_toArray, List.length]; omega)
  refine ⟨(T.setVm vg2).vm, Yg2, fun t kk => ?_⟩
  refine XS.dloadN X.here hx rfl (hb hby own_d_jdk_128_16_0) rfl ?_
  show Steps p.tables e below (T.setTop (mkF m 1 #[.val (.double (4613937818241073152 : UInt64)), .second] [(.double (4613937818241073152 : UInt64))])) _
  refine kl1 _ ?_
  show Steps p.tables e below (T.setTop (mkF m 4 #[.val (.double (4613937818241073152 : UInt64)), .second] [(.double (9223372036854775808 : UInt64)), (.double (4613937818241073152 : UInt64))])) _
  refine XS.dconst1 X.here hx rfl (hb hby own_d_jdk_128_16_4) (v := 4607182418800017408) (by decide +kernel) ?_
  show Steps p.tables e below (T.setTop (mkF m 5 #[.val (.double (4613937818241073152 : UInt64)), .second] [(.double (4607182418800017408 : UInt64)), (.double (9223372036854775808 : UInt64)), (.double (4613937818241073152 : UInt64))])) _
  refine XS.dconst1 X.here hx rfl (hb hby own_d_jdk_128_16_5) (v := 4607182418800017408) (by decide +kernel) ?_
  show Steps p.tables e below (T.setTop (mkF m 6 #[.val (.double (4613937818241073152 : UInt64)), .second] [(.double (4607182418800017408 : UInt64)), (.double (4607182418800017408 : UInt64)), (.double (9223372036854775808 : UInt64)), (.double (4613937818241073152 : UInt64))])) _
  refine kg2 _ ?_
  show Steps p.tables e below ((T.setVm vg2).setTop (mkF m 9 #[.val (.double (4613937818241073152 : UInt64)), .second] [(.double (4613937818241073152 : UInt64))])) _
  exact kk
def own_Q_own_rpct_2_3 (Z : State) (o0 : Addr) (b0 : Addr) (k0 : ClassId) (f0 : Nat → Int64) (h0 : Heap) (n0 : Nat) : Option Value → Heap → List Loc → Prop := fun v h L => ∃ (ix : Int32), v = some (.long (own_mid ix)) ∧ Fr n0 L ∧ h = h0 ∧ own_at f0 3 ix
theorem own_ef_own_rpct_2_3 (m : MethodId) (x0 : Addr) : entryFrame m #[(.ref x0), (.double (4607182418800017408 : UInt64))] 8 = mkF m 0 #[.val (.ref x0), .val (.double (4607182418800017408 : UInt64)), .second, .unset, .unset, .unset, .unset, .unset] [] := by first | (simp [entryFrame, mkF, argsToLocals, Value.category]; done) | rfl
set_option maxRecDepth 65536 in
set_option maxHeartbeats 40000000 in
theorem own_rpct_2_3 (l : Launch) (Z : State) (a0 : Array Value) (hw : ∀ d ∈ tables_1, d.before a0 Z = true) (ws : List Jvm.Cond) (o0 : Addr) (b0 : Addr) (k0 : ClassId) (f0 : Nat → Int64) (h0 : Heap) (n0 : Nat) (Z0 : n0 ≤ h0.size) (Fc0 : Fld Z h0 o0 "com/example/nocord/nocord/bench/Latencies" "counts" "[J" (.ref b0)) (Ft0 : Fld Z h0 o0 "com/example/nocord/nocord/bench/Latencies" "total" "J" (.long (3 : Int64))) (A0 : own_Arf Z h0 b0 k0 f0) (hsm : own_small f0) (hsum : own_pre f0 7296 = 3) (SA : Sta Z h0 "java/lang/StrictMath" "$assertionsDisabled" "Z" (.int (1 : Int32))) :
    MetFree l (⟨"com/example/nocord/nocord/bench/Latencies", "percentile", "(D)J"⟩ : MethodName) (head1 (Jvm.Cond.code (⟨"com/example/nocord/nocord/bench/Latencies", "percentile", "(D)J"⟩ : MethodName) prog_5_method_5_code 8 (some .long) :: ws) ({ frames := 7, cells := 0, slots := 0, locals := 132 } : Room)) (fun a U => a = #[(.ref o0), (.double (4607182418800017408 : UInt64))] ∧ Z.Warmed39 U.vm ∧ U.heap = h0) (fun _ _ _ _ _ => True) (fun _ U o U' => ∃ v L, o = .returned v ∧ (own_Q_own_rpct_2_3 Z o0 b0 k0 f0 h0 n0) v U'.heap L ∧ FrameEnd U o U' L ({ frames := 7, cells := 0, slots := 0, locals := 132 } : Room).cells ({ frames := 7, cells := 0, slots := 0, locals := 132 } : Room).slots) := by
  refine MetFree.of_bodySF (plainFor_of_name own_pn2) hisR ?_
  intro p e s m args below meth c s₁ Bd hml0 hP hK
  obtain ⟨rfl, hZ, hh⟩ := hP
  have hx := Bd.exec
  have hby := Bd.bytes
  have hml : c.maxLocals = 8 := hml0
  have hown : s.vm.findClass "com/example/nocord/nocord/bench/Latencies" = some m.cls := findClass_of_methodNamed Bd.named
  have hnm := (name_of_methodNamed Bd.named Bd.method).1
  have hlk : meth.locks = false := BodyLoose.notSynchronized Bd
  have X0 : Stand p l e ({ frames := 7, cells := 0, slots := 0, locals := 132 } : Room) s m #[(.ref o0), (.double (4607182418800017408 : UInt64))] below meth c s₁ [] 0 0 := Stand.of_body Bd
  have e0 : s₁.heap = h0 := by rw [← hh, Bd.state]; rfl
  have N0 := Fr.nil n0
  show own_Ends p e below s (own_Q_own_rpct_2_3 Z o0 b0 k0 f0 h0 n0) ({ frames := 7, cells := 0, slots := 0, locals := 132 } : Room).cells ({ frames := 7, cells := 0, slots := 0, locals := 132 } : Room).slots _
  refine own_by (V := s₁.setTop (mkF m 0 #[.val (.ref o0), .val (.double (4607182418800017408 : UInt64)), .second, .unset, .unset, .unset, .unset, .unset] [])) (fun t k => castTop (own_ef_own_rpct_2_3 m o0) k) ?_
  refine own_by (V := s₁.setTop (mkF m 1 #[.val (.ref o0), .val (.double (4607182418800017408 : UInt64)), .second, .unset, .unset, .unset, .unset, .unset] [(.long (1 : Int64))])) (fun t k => XS.lconst X0.here hx rfl (hb hby own_d_prog_5_5_0) k) ?_
  refine own_by (V := s₁.setTop (mkF m 2 #[.val (.ref o0), .val (.double (4607182418800017408 : UInt64)), .second, .unset, .unset, .unset, .unset, .unset] [(.double (4607182418800017408 : UInt64)), (.long (1 : Int64))])) (fun t k => XS.dloadN X0.here hx rfl (hb hby own_d_prog_5_5_1) rfl  k) ?_
  refine own_by (V := s₁.setTop (mkF m 3 #[.val (.ref o0), .val (.double (4607182418800017408 : UInt64)), .second, .unset, .unset, .unset, .unset, .unset] [(.ref o0), (.double (4607182418800017408 : UInt64)), (.long (1 : Int64))])) (fun t k => XS.aloadN X0.here hx rfl (hb hby own_d_prog_5_5_2) rfl rfl k) ?_
  obtain ⟨T1, X1, e1, st1⟩ := getF X0 hx hZ hown (host := "") (Or.inl (hw _ (List.mem_of_getElem? (i := 26) rfl))) Via.refl e0 Ft0 (g := (mkF m 3 #[.val (.ref o0), .val (.double (4607182418800017408 : UInt64)), .second, .unset, .unset, .unset, .unset, .unset] [(.ref o0), (.double (4607182418800017408 : UInt64)), (.long (1 : Int64))])) rfl rfl (hb hby own_d_prog_5_5_3)
  refine own_by (V := T1.setTop (mkF m 6 #[.val (.ref o0), .val (.double (4607182418800017408 : UInt64)), .second, .unset, .unset, .unset, .unset, .unset] [(.long (3 : Int64)), (.double (4607182418800017408 : UInt64)), (.long (1 : Int64))])) st1 ?_
  refine own_by (V := T1.setTop (mkF m 7 #[.val (.ref o0), .val (.double (4607182418800017408 : UInt64)), .second, .unset, .unset, .unset, .unset, .unset] [(.double (4613937818241073152 : UInt64)), (.double (4607182418800017408 : UInt64)), (.long (1 : Int64))])) (fun t k => XS.l2dS X1.here hx rfl (hb hby own_d_prog_5_5_6) rfl (v := (4613937818241073152 : UInt64)) (by decide +kernel) k) ?_
  refine own_by (V := T1.setTop (mkF m 8 #[.val (.ref o0), .val (.double (4607182418800017408 : UInt64)), .second, .unset, .unset, .unset, .unset, .unset] [(.double (4613937818241073152 : UInt64)), (.long (1 : Int64))])) (fun t k => XS.dmulS X1.here hx rfl (hb hby own_d_prog_5_5_7) rfl (by unfold Jvm.Free.Fl.NoNaN64; decide +kernel) (v := (4613937818241073152 : UInt64)) (by decide +kernel) k) ?_
  obtain ⟨T2, X2, e2, st2⟩ := own_ceilZ X1 hx (r := 4613937818241073152) e1 hown (mvT hZ (hw _ (List.mem_of_getElem? (i := 33) rfl))) (mvT hZ (hw _ (List.mem_of_getElem? (i := 34) rfl))) (mvT hZ (hw _ (List.mem_of_getElem? (i := 20) rfl))) (mvT hZ (hw _ (List.mem_of_getElem? (i := 35) rfl))) (mvT hZ (hw _ (List.mem_of_getElem? (i := 38) rfl))) (mvT hZ (hw _ (List.mem_of_getElem? (i := 39) rfl))) (own_staS hZ SA) (by decide +kernel) own_d_jdk_128_16_9 (fun Y a1 a2 a3 a4 a5 a6 => own_sc_v3 hw hZ Y hx a1 a2 a3 a4 a5 a6) (g := (mkF m 8 #[.val (.ref o0), .val (.double (4607182418800017408 : UInt64)), .second, .unset, .unset, .unset, .unset, .unset] [(.double (4613937818241073152 : UInt64)), (.long (1 : Int64))])) rfl (by rw [hml]; rfl) (rest := [(.long (1 : Int64))]) rfl (hb hby own_d_prog_5_5_8) (by decide) (by show 2 * 0 + 2 + 130 ≤ _; decide)
  refine own_by (V := T2.setTop (mkF m 11 #[.val (.ref o0), .val (.double (4607182418800017408 : UInt64)), .second, .unset, .unset, .unset, .unset, .unset] [(.double (4613937818241073152 : UInt64)), (.long (1 : Int64))])) st2 ?_
  refine own_by (V := T2.setTop (mkF m 12 #[.val (.ref o0), .val (.double (4607182418800017408 : UInt64)), .second, .unset, .unset, .unset, .unset, .unset] [(.long (3 : Int64)), (.long (1 : Int64))])) (fun t k => XS.d2lS X2.here hx rfl (hb hby own_d_prog_5_5_11) rfl (v := (3 : Int64)) (by decide +kernel) k) ?_
  obtain ⟨_, _, ⟨T3, Lq3, kq3, nq3⟩, -, X3, ⟨Lc3, hQ3, lq3, yq3, zq3⟩, st3⟩ := Jvm.LawKit.callS X2 hx (y := (⟨"java/lang/Math", "max", "(JJ)J"⟩ : MethodName)) hown (mvT hZ (hw _ (List.mem_of_getElem? (i := 18) rfl))) (mvT hZ (hw _ (List.mem_of_getElem? (i := 19) rfl))) (mvT hZ (hw _ (List.mem_of_getElem? (i := 20) rfl))) (mvT hZ (hw _ (List.mem_of_getElem? (i := 21) rfl))) (by decide) (backOf (W := 0) (own_rmax l Z a0 hw [] (1 : Int64) (3 : Int64) h0 n0) hZ (hw _ (List.mem_of_getElem? (i := 21) rfl)) (hw _ (List.mem_of_getElem? (i := 20) rfl)) (by decide) (by decide)) (g := (mkF m 12 #[.val (.ref o0), .val (.double (4607182418800017408 : UInt64)), .second, .unset, .unset, .unset, .unset, .unset] [(.long (3 : Int64)), (.long (1 : Int64))])) rfl (by rw [hml]; rfl) (argsL := [(.long (1 : Int64)), (.long (3 : Int64))]) (rest := []) (lenOf own_pd2 rfl) rfl (by show 2 * 0 + _ ≤ _; exact Nat.le_of_eq rfl) (hb hby own_d_prog_5_5_12) (fun _ _ => ⟨rfl, e2, (by decide : 0 + 0 ≤ _), (by decide : 0 + 0 ≤ _)⟩)
  dsimp only [Pt.U, Pt.locs, Pt.cells, Pt.slots] at X3 lq3 yq3 zq3 st3 hQ3
  subst lq3 yq3 zq3
  obtain ⟨rfl, N3q, e3⟩ := hQ3
  have N3 := Fr.app N0 N3q
  refine own_by (V := T3.setTop (mkF m 15 #[.val (.ref o0), .val (.double (4607182418800017408 : UInt64)), .second, .unset, .unset, .unset, .unset, .unset] [(.long (own_max (1 : Int64) (3 : Int64)))])) st3 ?_
  refine own_by (V := T3.setTop (mkF m 16 #[.val (.ref o0), .val (.double (4607182418800017408 : UInt64)), .second, .val (.long (own_max (1 : Int64) (3 : Int64))), .second, .unset, .unset, .unset] [])) (fun t k => XS.lstoreN X3.here hx rfl (hb hby own_d_prog_5_5_15) rfl (l' := #[.val (.ref o0), .val (.double (4607182418800017408 : UInt64)), .second, .val (.long (own_max (1 : Int64) (3 : Int64))), .second, .unset, .unset, .unset]) rfl k) ?_
  refine own_by (V := T3.setTop (mkF m 17 #[.val (.ref o0), .val (.double (4607182418800017408 : UInt64)), .second, .val (.long (own_max (1 : Int64) (3 : Int64))), .second, .unset, .unset, .unset] [(.long (0 : Int64))])) (fun t k => XS.lconst X3.here hx rfl (hb hby own_d_prog_5_5_16) k) ?_
  refine own_by (V := T3.setTop (mkF m 19 #[.val (.ref o0), .val (.double (4607182418800017408 : UInt64)), .second, .val (.long (own_max (1 : Int64) (3 : Int64))), .second, .val (.long (0 : Int64)), .second, .unset] [])) (fun t k => XS.lstore X3.here hx rfl (hb hby own_d_prog_5_5_17) rfl (l' := #[.val (.ref o0), .val (.double (4607182418800017408 : UInt64)), .second, .val (.long (own_max (1 : Int64) (3 : Int64))), .second, .val (.long (0 : Int64)), .second, .unset]) rfl k) ?_
  refine own_by (V := T3.setTop (mkF m 20 #[.val (.ref o0), .val (.double (4607182418800017408 : UInt64)), .second, .val (.long (own_max (1 : Int64) (3 : Int64))), .second, .val (.long (0 : Int64)), .second, .unset] [(.int (0 : Int32))])) (fun t k => XS.iconst X3.here hx rfl (hb hby own_d_prog_5_5_19) k) ?_
  refine own_by (V := T3.setTop (mkF m 22 #[.val (.ref o0), .val (.double (4607182418800017408 : UInt64)), .second, .val (.long (own_max (1 : Int64) (3 : Int64))), .second, .val (.long (0 : Int64)), .second, .val (.int (0 : Int32))] [])) (fun t k => XS.istore X3.here hx rfl (hb hby own_d_prog_5_5_20) rfl (l' := #[.val (.ref o0), .val (.double (4607182418800017408 : UInt64)), .second, .val (.long (own_max (1 : Int64) (3 : Int64))), .second, .val (.long (0 : Int64)), .second, .val (.int (0 : Int32))]) rfl k) ?_
  have J4 : ∀ (fu : Nat) (T4 : State) (l4 : List Loc) (iv : Int32) (bv : Int64) (ix : Nat) (X4 : Stand p l e ({ frames := 7, cells := 0, slots := 0, locals := 132 } : Room) s m #[(.ref o0), (.double (4607182418800017408 : UInt64))] below meth c T4 l4 0 0) (e4 : T4.heap = h0) (N4 : Fr n0 l4) (hix : iv.toInt = (ix : Int)) (hfu : ix + fu = 7296) (hbv : bv.toInt = own_pre f0 ix) (hlt : own_pre f0 ix < 3), own_Ends p e below s (own_Q_own_rpct_2_3 Z o0 b0 k0 f0 h0 n0) ({ frames := 7, cells := 0, slots := 0, locals := 132 } : Room).cells ({ frames := 7, cells := 0, slots := 0, locals := 132 } : Room).slots (T4.setTop (mkF m 22 #[.val (.ref o0), .val (.double (4607182418800017408 : UInt64)), .second, .val (.long (3 : Int64)), .second, .val (.long bv), .second, .val (.int iv)] [])) := by
    intro fu
    induction fu with
    | zero => intro T4 l4 iv bv ix X4 e4 N4 hix hfu hbv hlt; have q : ix = 7296 := (by omega); rw [q, hsum] at hlt; exact absurd hlt (by decide)
    | succ fu ih =>
      intro T4 l4 iv bv ix X4 e4 N4 hix hfu hbv hlt
      have hbk : own_bk iv := ⟨by omega, by omega⟩
      have htn := own_turn hsm (by decide) hix hbv hlt
      refine own_by (V := T4.setTop (mkF m 23 #[.val (.ref o0), .val (.double (4607182418800017408 : UInt64)), .second, .val (.long (3 : Int64)), .second, .val (.long bv), .second, .val (.int iv)] [(.ref o0)])) (fun t k => XS.aloadN X4.here hx rfl (hb hby own_d_prog_5_5_22) rfl rfl k) ?_
      obtain ⟨T5, X5, e5, st5⟩ := getF X4 hx hZ hown (host := "") (Or.inl (hw _ (List.mem_of_getElem? (i := 26) rfl))) Via.refl e4 Ft0 (g := (mkF m 23 #[.val (.ref o0), .val (.double (4607182418800017408 : UInt64)), .second, .val (.long (3 : Int64)), .second, .val (.long bv), .second, .val (.int iv)] [(.ref o0)])) rfl rfl (hb hby own_d_prog_5_5_23)
      refine own_by (V := T5.setTop (mkF m 26 #[.val (.ref o0), .val (.double (4607182418800017408 : UInt64)), .second, .val (.long (3 : Int64)), .second, .val (.long bv), .second, .val (.int iv)] [(.long (3 : Int64))])) st5 ?_
      refine own_by (V := T5.setTop (mkF m 27 #[.val (.ref o0), .val (.double (4607182418800017408 : UInt64)), .second, .val (.long (3 : Int64)), .second, .val (.long bv), .second, .val (.int iv)] [(.long (0 : Int64)), (.long (3 : Int64))])) (fun t k => XS.lconst X5.here hx rfl (hb hby own_d_prog_5_5_26) k) ?_
      refine own_by (V := T5.setTop (mkF m 28 #[.val (.ref o0), .val (.double (4607182418800017408 : UInt64)), .second, .val (.long (3 : Int64)), .second, .val (.long bv), .second, .val (.int iv)] [(.int (lcmpW (3 : Int64) (0 : Int64)))])) (fun t k => XS.lcmp X5.here hx rfl (hb hby own_d_prog_5_5_27) rfl k) ?_
      have hb28_6 : ((0 : Int32) < (lcmpW (3 : Int64) (0 : Int64))) := by decide
      refine own_by (V := T5.setTop (mkF m 31 #[.val (.ref o0), .val (.double (4607182418800017408 : UInt64)), .second, .val (.long (3 : Int64)), .second, .val (.long bv), .second, .val (.int iv)] [])) (fun t k => XS.ifNo X5.here hx rfl (hb hby own_d_prog_5_5_28) rfl ((if0 _ _).trans (tlt hb28_6).2.2.2) k) ?_
      refine own_by (V := T5.setTop (mkF m 33 #[.val (.ref o0), .val (.double (4607182418800017408 : UInt64)), .second, .val (.long (3 : Int64)), .second, .val (.long bv), .second, .val (.int iv)] [(.long bv)])) (fun t k => XS.lload X5.here hx rfl (hb hby own_d_prog_5_5_31) rfl  k) ?_
      refine own_by (V := T5.setTop (mkF m 34 #[.val (.ref o0), .val (.double (4607182418800017408 : UInt64)), .second, .val (.long (3 : Int64)), .second, .val (.long bv), .second, .val (.int iv)] [(.ref o0), (.long bv)])) (fun t k => XS.aloadN X5.here hx rfl (hb hby own_d_prog_5_5_33) rfl rfl k) ?_
      obtain ⟨T7, X7, e7, st7⟩ := getF X5 hx hZ hown (host := "") (Or.inl (hw _ (List.mem_of_getElem? (i := 11) rfl))) Via.refl e5 Fc0 (g := (mkF m 34 #[.val (.ref o0), .val (.double (4607182418800017408 : UInt64)), .second, .val (.long (3 : Int64)), .second, .val (.long bv), .second, .val (.int iv)] [(.ref o0), (.long bv)])) rfl rfl (hb hby own_d_prog_5_5_34)
      refine own_by (V := T7.setTop (mkF m 37 #[.val (.ref o0), .val (.double (4607182418800017408 : UInt64)), .second, .val (.long (3 : Int64)), .second, .val (.long bv), .second, .val (.int iv)] [(.ref b0), (.long bv)])) st7 ?_
      refine own_by (V := T7.setTop (mkF m 39 #[.val (.ref o0), .val (.double (4607182418800017408 : UInt64)), .second, .val (.long (3 : Int64)), .second, .val (.long bv), .second, .val (.int iv)] [(.int iv), (.ref b0), (.long bv)])) (fun t k => XS.iload X7.here hx rfl (hb hby own_d_prog_5_5_37) rfl  k) ?_
      obtain ⟨cl8, Ar8, qa8, Sa8, Ha8⟩ := id A0
      refine own_by (V := T7.setTop (mkF m 40 #[.val (.ref o0), .val (.double (4607182418800017408 : UInt64)), .second, .val (.long (3 : Int64)), .second, .val (.long bv), .second, .val (.int iv)] [(.long (f0 iv.toNatClampNeg)), (.long bv)])) (X7.laload hx (j := iv) (v := .long (f0 iv.toNatClampNeg)) (by rw [e7]; exact Ar8.1) (State.isArrayOf_alike hZ.alike Ar8.2.1) Ar8.2.2 (own_inb Sa8 hbk) (Ha8 _ (own_nat hbk).1) (g := (mkF m 39 #[.val (.ref o0), .val (.double (4607182418800017408 : UInt64)), .second, .val (.long (3 : Int64)), .second, .val (.long bv), .second, .val (.int iv)] [(.int iv), (.ref b0), (.long bv)])) rfl rfl (hb hby own_d_prog_5_5_39)) ?_
      refine own_by (V := T7.setTop (mkF m 41 #[.val (.ref o0), .val (.double (4607182418800017408 : UInt64)), .second, .val (.long (3 : Int64)), .second, .val (.long bv), .second, .val (.int iv)] [(.long (bv + (f0 iv.toNatClampNeg)))])) (fun t k => XS.ladd X7.here hx rfl (hb hby own_d_prog_5_5_40) rfl k) ?_
      refine own_by (V := T7.setTop (mkF m 42 #[.val (.ref o0), .val (.double (4607182418800017408 : UInt64)), .second, .val (.long (3 : Int64)), .second, .val (.long bv), .second, .val (.int iv)] [(.long (3 : Int64)), (.long (bv + (f0 iv.toNatClampNeg)))])) (fun t k => XS.lloadN X7.here hx rfl (hb hby own_d_prog_5_5_41) rfl  k) ?_
      refine own_by (V := T7.setTop (mkF m 43 #[.val (.ref o0), .val (.double (4607182418800017408 : UInt64)), .second, .val (.long (3 : Int64)), .second, .val (.long bv), .second, .val (.int iv)] [(.int (lcmpW (bv + (f0 iv.toNatClampNeg)) (3 : Int64)))])) (fun t k => XS.lcmp X7.here hx rfl (hb hby own_d_prog_5_5_42) rfl k) ?_
      by_cases hb43_9 : (lcmpW (bv + (f0 iv.toNatClampNeg)) (3 : Int64)) < (0 : Int32)
      · refine own_by (V := T7.setTop (mkF m 46 #[.val (.ref o0), .val (.double (4607182418800017408 : UInt64)), .second, .val (.long (3 : Int64)), .second, .val (.long bv), .second, .val (.int iv)] [])) (fun t k => XS.ifNo X7.here hx rfl (hb hby own_d_prog_5_5_43) rfl ((if0 _ _).trans (tlt hb43_9).2.1) k) ?_
        refine own_by (V := T7.setTop (mkF m 48 #[.val (.ref o0), .val (.double (4607182418800017408 : UInt64)), .second, .val (.long (3 : Int64)), .second, .val (.long bv), .second, .val (.int iv)] [(.long bv)])) (fun t k => XS.lload X7.here hx rfl (hb hby own_d_prog_5_5_46) rfl  k) ?_
        refine own_by (V := T7.setTop (mkF m 49 #[.val (.ref o0), .val (.double (4607182418800017408 : UInt64)), .second, .val (.long (3 : Int64)), .second, .val (.long bv), .second, .val (.int iv)] [(.ref o0), (.long bv)])) (fun t k => XS.aloadN X7.here hx rfl (hb hby own_d_prog_5_5_48) rfl rfl k) ?_
        obtain ⟨T10, X10, e10, st10⟩ := getF X7 hx hZ hown (host := "") (Or.inl (hw _ (List.mem_of_getElem? (i := 11) rfl))) Via.refl e7 Fc0 (g := (mkF m 49 #[.val (.ref o0), .val (.double (4607182418800017408 : UInt64)), .second, .val (.long (3 : Int64)), .second, .val (.long bv), .second, .val (.int iv)] [(.ref o0), (.long bv)])) rfl rfl (hb hby own_d_prog_5_5_49)
        refine own_by (V := T10.setTop (mkF m 52 #[.val (.ref o0), .val (.double (4607182418800017408 : UInt64)), .second, .val (.long (3 : Int64)), .second, .val (.long bv), .second, .val (.int iv)] [(.ref b0), (.long bv)])) st10 ?_
        refine own_by (V := T10.setTop (mkF m 54 #[.val (.ref o0), .val (.double (4607182418800017408 : UInt64)), .second, .val (.long (3 : Int64)), .second, .val (.long bv), .second, .val (.int iv)] [(.int iv), (.ref b0), (.long bv)])) (fun t k => XS.iload X10.here hx rfl (hb hby own_d_prog_5_5_52) rfl  k) ?_
        obtain ⟨cl11, Ar11, qa11, Sa11, Ha11⟩ := id A0
        refine own_by (V := T10.setTop (mkF m 55 #[.val (.ref o0), .val (.double (4607182418800017408 : UInt64)), .second, .val (.long (3 : Int64)), .second, .val (.long bv), .second, .val (.int iv)] [(.long (f0 iv.toNatClampNeg)), (.long bv)])) (X10.laload hx (j := iv) (v := .long (f0 iv.toNatClampNeg)) (by rw [e10]; exact Ar11.1) (State.isArrayOf_alike hZ.alike Ar11.2.1) Ar11.2.2 (own_inb Sa11 hbk) (Ha11 _ (own_nat hbk).1) (g := (mkF m 54 #[.val (.ref o0), .val (.double (4607182418800017408 : UInt64)), .second, .val (.long (3 : Int64)), .second, .val (.long bv), .second, .val (.int iv)] [(.int iv), (.ref b0), (.long bv)])) rfl rfl (hb hby own_d_prog_5_5_54)) ?_
        refine own_by (V := T10.setTop (mkF m 56 #[.val (.ref o0), .val (.double (4607182418800017408 : UInt64)), .second, .val (.long (3 : Int64)), .second, .val (.long bv), .second, .val (.int iv)] [(.long (bv + (f0 iv.toNatClampNeg)))])) (fun t k => XS.ladd X10.here hx rfl (hb hby own_d_prog_5_5_55) rfl k) ?_
        refine own_by (V := T10.setTop (mkF m 58 #[.val (.ref o0), .val (.double (4607182418800017408 : UInt64)), .second, .val (.long (3 : Int64)), .second, .val (.long (bv + (f0 iv.toNatClampNeg))), .second, .val (.int iv)] [])) (fun t k => XS.lstore X10.here hx rfl (hb hby own_d_prog_5_5_56) rfl (l' := #[.val (.ref o0), .val (.double (4607182418800017408 : UInt64)), .second, .val (.long (3 : Int64)), .second, .val (.long (bv + (f0 iv.toNatClampNeg))), .second, .val (.int iv)]) rfl k) ?_
        refine own_by (V := T10.setTop (mkF m 61 #[.val (.ref o0), .val (.double (4607182418800017408 : UInt64)), .second, .val (.long (3 : Int64)), .second, .val (.long (bv + (f0 iv.toNatClampNeg))), .second, .val (.int (iv + (1 : Int32)))] [])) (fun t k => XS.iinc X10.here hx rfl (hb hby own_d_prog_5_5_58) rfl (l' := #[.val (.ref o0), .val (.double (4607182418800017408 : UInt64)), .second, .val (.long (3 : Int64)), .second, .val (.long (bv + (f0 iv.toNatClampNeg))), .second, .val (.int (iv + (1 : Int32)))]) rfl k) ?_
        refine own_by (V := T10.setTop (mkF m 22 #[.val (.ref o0), .val (.double (4607182418800017408 : UInt64)), .second, .val (.long (3 : Int64)), .second, .val (.long (bv + (f0 iv.toNatClampNeg))), .second, .val (.int (iv + (1 : Int32)))] [])) (fun t k => XS.goto X10.here hx rfl (pc0 := 61) (pc' := 22) rfl (hb hby own_d_prog_5_5_61) (by decide) (by decide) k) ?_
        exact ih T10 _ (iv + (1 : Int32)) (bv + (f0 iv.toNatClampNeg)) (ix + 1) (X10.more (by decide) (by decide)) e10 N4 (own_ivinc hix (by omega)) (by omega) htn (by have q := Int64.lt_iff_toInt_lt.mp ((own_lc _ _).1.mp hb43_9); rw [htn] at q; exact q)
      · refine own_by (V := T7.setTop (mkF m 64 #[.val (.ref o0), .val (.double (4607182418800017408 : UInt64)), .second, .val (.long (3 : Int64)), .second, .val (.long bv), .second, .val (.int iv)] [])) (fun t k => XS.ifYes X7.here hx rfl (pc0 := 43) (pc' := 64) rfl (hb hby own_d_prog_5_5_43) rfl ((if0 _ _).trans (flt hb43_9).2.1) (by decide) (by decide) k) ?_
        have hat : own_at f0 3 iv := ⟨hbk, by rw [own_natx hix]; exact hlt, by rw [own_natx hix, ← htn]; exact Int.not_lt.mp fun u => hb43_9 ((own_lc _ _).1.mpr (Int64.lt_iff_toInt_lt.mpr u))⟩
        refine own_by (V := T7.setTop (mkF m 65 #[.val (.ref o0), .val (.double (4607182418800017408 : UInt64)), .second, .val (.long (3 : Int64)), .second, .val (.long bv), .second, .val (.int iv)] [(.ref o0)])) (fun t k => XS.aloadN X7.here hx rfl (hb hby own_d_prog_5_5_64) rfl rfl k) ?_
        obtain ⟨T12, X12, e12, st12⟩ := getF X7 hx hZ hown (host := "") (Or.inl (hw _ (List.mem_of_getElem? (i := 26) rfl))) Via.refl e7 Ft0 (g := (mkF m 65 #[.val (.ref o0), .val (.double (4607182418800017408 : UInt64)), .second, .val (.long (3 : Int64)), .second, .val (.long bv), .second, .val (.int iv)] [(.ref o0)])) rfl rfl (hb hby own_d_prog_5_5_65)
        refine own_by (V := T12.setTop (mkF m 68 #[.val (.ref o0), .val (.double (4607182418800017408 : UInt64)), .second, .val (.long (3 : Int64)), .second, .val (.long bv), .second, .val (.int iv)] [(.long (3 : Int64))])) st12 ?_
        refine own_by (V := T12.setTop (mkF m 69 #[.val (.ref o0), .val (.double (4607182418800017408 : UInt64)), .second, .val (.long (3 : Int64)), .second, .val (.long bv), .second, .val (.int iv)] [(.long (0 : Int64)), (.long (3 : Int64))])) (fun t k => XS.lconst X12.here hx rfl (hb hby own_d_prog_5_5_68) k) ?_
        refine own_by (V := T12.setTop (mkF m 70 #[.val (.ref o0), .val (.double (4607182418800017408 : UInt64)), .second, .val (.long (3 : Int64)), .second, .val (.long bv), .second, .val (.int iv)] [(.int (lcmpW (3 : Int64) (0 : Int64)))])) (fun t k => XS.lcmp X12.here hx rfl (hb hby own_d_prog_5_5_69) rfl k) ?_
        have hb70_13 : ((0 : Int32) < (lcmpW (3 : Int64) (0 : Int64))) := by decide
        refine own_by (V := T12.setTop (mkF m 73 #[.val (.ref o0), .val (.double (4607182418800017408 : UInt64)), .second, .val (.long (3 : Int64)), .second, .val (.long bv), .second, .val (.int iv)] [])) (fun t k => XS.ifNo X12.here hx rfl (hb hby own_d_prog_5_5_70) rfl ((if0 _ _).trans (tlt hb70_13).2.2.2) k) ?_
        refine own_by (V := T12.setTop (mkF m 75 #[.val (.ref o0), .val (.double (4607182418800017408 : UInt64)), .second, .val (.long (3 : Int64)), .second, .val (.long bv), .second, .val (.int iv)] [(.int iv)])) (fun t k => XS.iload X12.here hx rfl (hb hby own_d_prog_5_5_73) rfl  k) ?_
        obtain ⟨_, _, ⟨T14, Lq14, kq14, nq14⟩, -, X14, ⟨Lc14, hQ14, lq14, yq14, zq14⟩, st14⟩ := Jvm.LawKit.callS X12 hx (y := (⟨"com/example/nocord/nocord/bench/Latencies", "middle", "(I)J"⟩ : MethodName)) hown (mvT hZ (hw _ (List.mem_of_getElem? (i := 53) rfl))) (mvT hZ (hw _ (List.mem_of_getElem? (i := 54) rfl))) (mvT hZ (hw _ (List.mem_of_getElem? (i := 3) rfl))) (mvT hZ (hw _ (List.mem_of_getElem? (i := 55) rfl))) (by decide) (backOf (W := 0) (own_rmid l Z a0 hw [] iv h0 n0) hZ (hw _ (List.mem_of_getElem? (i := 55) rfl)) (hw _ (List.mem_of_getElem? (i := 3) rfl)) (by decide) (by decide)) (g := (mkF m 75 #[.val (.ref o0), .val (.double (4607182418800017408 : UInt64)), .second, .val (.long (3 : Int64)), .second, .val (.long bv), .second, .val (.int iv)] [(.int iv)])) rfl (by rw [hml]; rfl) (argsL := [(.int iv)]) (rest := []) (lenOf own_pd5 rfl) rfl (by show 2 * 0 + _ ≤ _; exact Nat.le_of_eq rfl) (hb hby own_d_prog_5_5_75) (fun _ _ => ⟨rfl, e12, (by decide : 0 + 0 ≤ _), (by decide : 0 + 0 ≤ _)⟩)
        dsimp only [Pt.U, Pt.locs, Pt.cells, Pt.slots] at X14 lq14 yq14 zq14 st14 hQ14
        subst lq14 yq14 zq14
        obtain ⟨rfl, N14q, e14⟩ := hQ14
        have N14 := Fr.app N4 N14q
        refine own_by (V := T14.setTop (mkF m 78 #[.val (.ref o0), .val (.double (4607182418800017408 : UInt64)), .second, .val (.long (3 : Int64)), .second, .val (.long bv), .second, .val (.int iv)] [(.long (own_mid iv))])) st14 ?_
        refine own_by (V := T14.setTop (mkF m 82 #[.val (.ref o0), .val (.double (4607182418800017408 : UInt64)), .second, .val (.long (3 : Int64)), .second, .val (.long bv), .second, .val (.int iv)] [(.long (own_mid iv))])) (fun t k => XS.goto X14.here hx rfl (pc0 := 78) (pc' := 82) rfl (hb hby own_d_prog_5_5_78) (by decide) (by decide) k) ?_
        refine own_retL X14 hx hlk e14 Bd.returns (hb hby own_d_prog_5_5_82) ?_ (by decide) (by decide)
        exact ⟨iv, rfl, N14, rfl, hat⟩
  rw [show (own_max (1 : Int64) (3 : Int64)) = (3 : Int64) from by decide +kernel]
  exact J4 7296 T3 _ (0 : Int32) (0 : Int64) 0 (X3.more (by decide) (by decide)) e3 N3 rfl rfl rfl (by show (0 : Int) < 3; decide)
def own_Q_own_rm0 (Z : State) (q0 : Int64) (q1 : Int64) (q2 : Int64) (h0 : Heap) (n0 : Nat) : Option Value → Heap → List Loc → Prop := fun v h L => v = some (.int 1) ∧ Fr n0 L
theorem own_ef_own_rm0 (m : MethodId) (x0 : Int64) (x1 : Int64) (x2 : Int64) : entryFrame m #[(.long x0), (.long x1), (.long x2)] maxLocals = mkF m 0 #[.val (.long x0), .second, .val (.long x1), .second, .val (.long x2), .second, .unset, .unset, .unset, .unset, .unset, .unset, .unset, .unset, .unset, .unset, .unset, .unset, .unset, .unset, .unset, .unset, .unset, .unset, .unset, .unset, .unset] [] := by first | (simp [entryFrame, mkF, argsToLocals, Value.category, maxLocals]; done) | rfl
set_option maxRecDepth 65536 in
set_option maxHeartbeats 40000000 in
theorem own_rm0 (l : Launch) (Z : State) (a0 : Array Value) (hw : ∀ d ∈ tables_1, d.before a0 Z = true) (ws : List Jvm.Cond) (q0 : Int64) (q1 : Int64) (q2 : Int64) (h0 : Heap) (n0 : Nat) (Z0 : n0 ≤ h0.size) (O0 : Old Z n0 h0) (SA : Sta Z Z.heap "java/lang/StrictMath" "$assertionsDisabled" "Z" (.int (1 : Int32))) :
    MetFree l x (head1 (Jvm.Cond.code x code maxLocals ret :: ws) room_1) (fun a U => a = #[(.long q0), (.long q1), (.long q2)] ∧ Z.Warmed39 U.vm ∧ U.heap = h0) (fun _ _ _ _ _ => True) (fun _ U o U' => ∃ v L, o = .returned v ∧ (own_Q_own_rm0 Z q0 q1 q2 h0 n0) v U'.heap L ∧ FrameEnd U o U' L room_1.cells room_1.slots) := by
  refine MetFree.of_bodySF (plainFor_of_name own_pn3) hisR ?_
  intro p e s m args below meth c s₁ Bd hml0 hP hK
  obtain ⟨rfl, hZ, hh⟩ := hP
  have hx := Bd.exec
  have hby := Bd.bytes
  have hml : c.maxLocals = 27 := hml0
  have hown : s.vm.findClass "com/example/nocord/nocord/bench/LatenciesAddPinLaw" = some m.cls := findClass_of_methodNamed Bd.named
  have hnm := (name_of_methodNamed Bd.named Bd.method).1
  have hlk : meth.locks = false := BodyLoose.notSynchronized Bd
  have X0 : Stand p l e room_1 s m #[(.long q0), (.long q1), (.long q2)] below meth c s₁ [] 0 0 := Stand.of_body Bd
  have e0 : s₁.heap = h0 := by rw [← hh, Bd.state]; rfl
  have N0 := Fr.nil n0
  show own_Ends p e below s (own_Q_own_rm0 Z q0 q1 q2 h0 n0) room_1.cells room_1.slots _
  refine own_by (V := s₁.setTop (mkF m 0 #[.val (.long q0), .second, .val (.long q1), .second, .val (.long q2), .second, .unset, .unset, .unset, .unset, .unset, .unset, .unset, .unset, .unset, .unset, .unset, .unset, .unset, .unset, .unset, .unset, .unset, .unset, .unset, .unset, .unset] [])) (fun t k => castTop (own_ef_own_rm0 m q0 q1 q2) k) ?_
  refine own_by (V := s₁.setTop (mkF m 1 #[.val (.long q0), .second, .val (.long q1), .second, .val (.long q2), .second, .unset, .unset, .unset, .unset, .unset, .unset, .unset, .unset, .unset, .unset, .unset, .unset, .unset, .unset, .unset, .unset, .unset, .unset, .unset, .unset, .unset] [(.double (0 : UInt64))])) (fun t k => XS.dconst0 X0.here hx rfl (hb hby at_0) (v := (0 : UInt64)) (by decide +kernel) k) ?_
  refine own_by (V := s₁.setTop (mkF m 3 #[.val (.long q0), .second, .val (.long q1), .second, .val (.long q2), .second, .val (.double (0 : UInt64)), .second, .unset, .unset, .unset, .unset, .unset, .unset, .unset, .unset, .unset, .unset, .unset, .unset, .unset, .unset, .unset, .unset, .unset, .unset, .unset] [])) (fun t k => XS.dstore X0.here hx rfl (hb hby at_1) rfl (l' := #[.val (.long q0), .second, .val (.long q1), .second, .val (.long q2), .second, .val (.double (0 : UInt64)), .second, .unset, .unset, .unset, .unset, .unset, .unset, .unset, .unset, .unset, .unset, .unset, .unset, .unset, .unset, .unset, .unset, .unset, .unset, .unset]) rfl k) ?_
  refine own_by (V := s₁.setTop (mkF m 6 #[.val (.long q0), .second, .val (.long q1), .second, .val (.long q2), .second, .val (.double (0 : UInt64)), .second, .unset, .unset, .unset, .unset, .unset, .unset, .unset, .unset, .unset, .unset, .unset, .unset, .unset, .unset, .unset, .unset, .unset, .unset, .unset] [(.double (4602678819172646912 : UInt64))])) (Jvm.Stand.ldc2DoubleC X0 hx hown (mvT hZ (hw _ (List.mem_of_getElem? (i := 0) rfl))) (g := (mkF m 3 #[.val (.long q0), .second, .val (.long q1), .second, .val (.long q2), .second, .val (.double (0 : UInt64)), .second, .unset, .unset, .unset, .unset, .unset, .unset, .unset, .unset, .unset, .unset, .unset, .unset, .unset, .unset, .unset, .unset, .unset, .unset, .unset] [])) rfl (hb hby at_3)) ?_
  refine own_by (V := s₁.setTop (mkF m 8 #[.val (.long q0), .second, .val (.long q1), .second, .val (.long q2), .second, .val (.double (0 : UInt64)), .second, .val (.double (4602678819172646912 : UInt64)), .second, .unset, .unset, .unset, .unset, .unset, .unset, .unset, .unset, .unset, .unset, .unset, .unset, .unset, .unset, .unset, .unset, .unset] [])) (fun t k => XS.dstore X0.here hx rfl (hb hby at_6) rfl (l' := #[.val (.long q0), .second, .val (.long q1), .second, .val (.long q2), .second, .val (.double (0 : UInt64)), .second, .val (.double (4602678819172646912 : UInt64)), .second, .unset, .unset, .unset, .unset, .unset, .unset, .unset, .unset, .unset, .unset, .unset, .unset, .unset, .unset, .unset, .unset, .unset]) rfl k) ?_
  refine own_by (V := s₁.setTop (mkF m 9 #[.val (.long q0), .second, .val (.long q1), .second, .val (.long q2), .second, .val (.double (0 : UInt64)), .second, .val (.double (4602678819172646912 : UInt64)), .second, .unset, .unset, .unset, .unset, .unset, .unset, .unset, .unset, .unset, .unset, .unset, .unset, .unset, .unset, .unset, .unset, .unset] [(.double (4607182418800017408 : UInt64))])) (fun t k => XS.dconst1 X0.here hx rfl (hb hby at_8) (v := (4607182418800017408 : UInt64)) (by decide +kernel) k) ?_
  refine own_by (V := s₁.setTop (mkF m 11 #[.val (.long q0), .second, .val (.long q1), .second, .val (.long q2), .second, .val (.double (0 : UInt64)), .second, .val (.double (4602678819172646912 : UInt64)), .second, .val (.double (4607182418800017408 : UInt64)), .second, .unset, .unset, .unset, .unset, .unset, .unset, .unset, .unset, .unset, .unset, .unset, .unset, .unset, .unset, .unset] [])) (fun t k => XS.dstore X0.here hx rfl (hb hby at_9) rfl (l' := #[.val (.long q0), .second, .val (.long q1), .second, .val (.long q2), .second, .val (.double (0 : UInt64)), .second, .val (.double (4602678819172646912 : UInt64)), .second, .val (.double (4607182418800017408 : UInt64)), .second, .unset, .unset, .unset, .unset, .unset, .unset, .unset, .unset, .unset, .unset, .unset, .unset, .unset, .unset, .unset]) rfl k) ?_
  obtain ⟨T1, h1, X1, e1, E1, A1, D1, -, st1⟩ := newO X0 hx hZ hown (hw _ (List.mem_of_getElem? (i := 1) rfl)) (hw _ (List.mem_of_getElem? (i := 2) rfl)) (hw _ (List.mem_of_getElem? (i := 3) rfl)) e0 (g := (mkF m 11 #[.val (.long q0), .second, .val (.long q1), .second, .val (.long q2), .second, .val (.double (0 : UInt64)), .second, .val (.double (4602678819172646912 : UInt64)), .second, .val (.double (4607182418800017408 : UInt64)), .second, .unset, .unset, .unset, .unset, .unset, .unset, .unset, .unset, .unset, .unset, .unset, .unset, .unset, .unset, .unset] [])) rfl (hb hby at_11) (by decide) (by decide)
  obtain ⟨b1, g1⟩ : ∃ z, z = h0.size := ⟨_, rfl⟩
  rw [← g1] at A1 D1 st1
  have O1 := O0.ext E1
  have f3 : Fld Z h1 b1 "com/example/nocord/nocord/bench/Latencies" "counts" "[J" .null := D1 (Or.inr (hw _ (List.mem_of_getElem? (i := 12) rfl))) (ty := (.array .long)) (by decide)
  have f4 : Fld Z h1 b1 "com/example/nocord/nocord/bench/Latencies" "total" "J" (.long (0 : Int64)) := D1 (Or.inl (hw _ (List.mem_of_getElem? (i := 27) rfl))) (ty := .long) (by decide)
  have gn1 : n0 ≤ b1 := Nat.le_trans Z0 (Nat.le_of_eq g1.symm)
  have Zs1 : n0 ≤ h1.size := Nat.le_trans Z0 E1.1
  refine own_by (V := T1.setTop (mkF m 14 #[.val (.long q0), .second, .val (.long q1), .second, .val (.long q2), .second, .val (.double (0 : UInt64)), .second, .val (.double (4602678819172646912 : UInt64)), .second, .val (.double (4607182418800017408 : UInt64)), .second, .unset, .unset, .unset, .unset, .unset, .unset, .unset, .unset, .unset, .unset, .unset, .unset, .unset, .unset, .unset] [(.ref b1)])) st1 ?_
  refine own_by (V := T1.setTop (mkF m 15 #[.val (.long q0), .second, .val (.long q1), .second, .val (.long q2), .second, .val (.double (0 : UInt64)), .second, .val (.double (4602678819172646912 : UInt64)), .second, .val (.double (4607182418800017408 : UInt64)), .second, .unset, .unset, .unset, .unset, .unset, .unset, .unset, .unset, .unset, .unset, .unset, .unset, .unset, .unset, .unset] [(.ref b1), (.ref b1)])) (fun t k => XS.dup X1.here hx rfl (hb hby at_14) rfl rfl k) ?_
  obtain ⟨_, _, ⟨T5, Lq5, kq5, nq5⟩, -, X5, ⟨Lc5, hQ5, lq5, yq5, zq5⟩, st5⟩ := X1.specialBack hx (y := (⟨"com/example/nocord/nocord/bench/Latencies", "<init>", "()V"⟩ : MethodName)) rfl hown (mvT hZ (hw _ (List.mem_of_getElem? (i := 4) rfl))) (mvT hZ (hw _ (List.mem_of_getElem? (i := 5) rfl))) (mvT hZ (hw _ (List.mem_of_getElem? (i := 6) rfl))) (by decide) (backOf (W := 1) (own_rinit l Z a0 hw [] b1 h1 n0 Zs1 gn1 A1 f3 f4) hZ (hw _ (List.mem_of_getElem? (i := 6) rfl)) (hw _ (List.mem_of_getElem? (i := 3) rfl)) (by decide) (by decide)) (g := (mkF m 15 #[.val (.long q0), .second, .val (.long q1), .second, .val (.long q2), .second, .val (.double (0 : UInt64)), .second, .val (.double (4602678819172646912 : UInt64)), .second, .val (.double (4607182418800017408 : UInt64)), .second, .unset, .unset, .unset, .unset, .unset, .unset, .unset, .unset, .unset, .unset, .unset, .unset, .unset, .unset, .unset] [(.ref b1), (.ref b1)])) rfl (by rw [hml]; rfl) (Steps.refl _) (a := b1) (argsL := []) (rest := [(.ref b1)]) (lenOf own_pd6 rfl) rfl (by show 2 * 0 + _ ≤ _; exact Nat.le_of_eq rfl) (hb hby at_15) (fun _ _ => ⟨rfl, e1, (by decide : 1 + 1 ≤ _), (by decide : 2 + 7296 ≤ _)⟩)
  dsimp only [Pt.U, Pt.locs, Pt.cells, Pt.slots] at X5 lq5 yq5 zq5 st5 hQ5
  subst lq5 yq5 zq5
  obtain ⟨b5, kb5, rfl, N5q, Kc5, hf5_b, g5_0, g5_1, g5_2, g5_3⟩ := hQ5
  have N5 := Fr.app N0 N5q
  have ne6 : b1 ≠ b5 := Nat.ne_of_lt (Nat.lt_of_lt_of_le A1.lt hf5_b)
  have gn5_b : n0 ≤ b5 := Nat.le_trans Zs1 hf5_b
  have f7 := A1.keep Kc5
  have O5 := O1.keep Kc5 (allS gn1 all0)
  have Zs5 : n0 ≤ T5.heap.size := Nat.le_trans Zs1 Kc5.1
  refine own_by (V := T5.setTop (mkF m 18 #[.val (.long q0), .second, .val (.long q1), .second, .val (.long q2), .second, .val (.double (0 : UInt64)), .second, .val (.double (4602678819172646912 : UInt64)), .second, .val (.double (4607182418800017408 : UInt64)), .second, .unset, .unset, .unset, .unset, .unset, .unset, .unset, .unset, .unset, .unset, .unset, .unset, .unset, .unset, .unset] [(.ref b1)])) (fun t k => st5.trans k) ?_
  refine own_by (V := T5.setTop (mkF m 20 #[.val (.long q0), .second, .val (.long q1), .second, .val (.long q2), .second, .val (.double (0 : UInt64)), .second, .val (.double (4602678819172646912 : UInt64)), .second, .val (.double (4607182418800017408 : UInt64)), .second, .val (.ref b1), .unset, .unset, .unset, .unset, .unset, .unset, .unset, .unset, .unset, .unset, .unset, .unset, .unset, .unset] [])) (fun t k => XS.astore X5.here hx rfl (hb hby at_18) rfl rfl (l' := #[.val (.long q0), .second, .val (.long q1), .second, .val (.long q2), .second, .val (.double (0 : UInt64)), .second, .val (.double (4602678819172646912 : UInt64)), .second, .val (.double (4607182418800017408 : UInt64)), .second, .val (.ref b1), .unset, .unset, .unset, .unset, .unset, .unset, .unset, .unset, .unset, .unset, .unset, .unset, .unset, .unset]) rfl k) ?_
  obtain ⟨T10, h10, X10, e10, E10, A10, D10, -, st10⟩ := newO X5 hx hZ hown (hw _ (List.mem_of_getElem? (i := 1) rfl)) (hw _ (List.mem_of_getElem? (i := 2) rfl)) (hw _ (List.mem_of_getElem? (i := 3) rfl)) rfl (g := (mkF m 20 #[.val (.long q0), .second, .val (.long q1), .second, .val (.long q2), .second, .val (.double (0 : UInt64)), .second, .val (.double (4602678819172646912 : UInt64)), .second, .val (.double (4607182418800017408 : UInt64)), .second, .val (.ref b1), .unset, .unset, .unset, .unset, .unset, .unset, .unset, .unset, .unset, .unset, .unset, .unset, .unset, .unset] [])) rfl (hb hby at_20) (by decide) (by decide)
  obtain ⟨b10, g10⟩ : ∃ z, z = T5.heap.size := ⟨_, rfl⟩
  rw [← g10] at A10 D10 st10
  have ne11 : b1 ≠ b10 := Nat.ne_of_lt (Nat.lt_of_lt_of_le g5_0.lt (Nat.le_of_eq g10.symm))
  have ne12 : b5 ≠ b10 := Nat.ne_of_lt (Nat.lt_of_lt_of_le g5_3.lt (Nat.le_of_eq g10.symm))
  have f14 := g5_0.ext E10
  have f18 := g5_1.ext E10
  have f19 := g5_2.ext E10
  have f20 := g5_3.ext E10
  have O10 := O5.ext E10
  have f23 : Fld Z h10 b10 "com/example/nocord/nocord/bench/Latencies" "counts" "[J" .null := D10 (Or.inr (hw _ (List.mem_of_getElem? (i := 12) rfl))) (ty := (.array .long)) (by decide)
  have f24 : Fld Z h10 b10 "com/example/nocord/nocord/bench/Latencies" "total" "J" (.long (0 : Int64)) := D10 (Or.inl (hw _ (List.mem_of_getElem? (i := 27) rfl))) (ty := .long) (by decide)
  have gn10 : n0 ≤ b10 := Nat.le_trans Zs5 (Nat.le_of_eq g10.symm)
  have Zs10 : n0 ≤ h10.size := Nat.le_trans Zs5 E10.1
  refine own_by (V := T10.setTop (mkF m 23 #[.val (.long q0), .second, .val (.long q1), .second, .val (.long q2), .second, .val (.double (0 : UInt64)), .second, .val (.double (4602678819172646912 : UInt64)), .second, .val (.double (4607182418800017408 : UInt64)), .second, .val (.ref b1), .unset, .unset, .unset, .unset, .unset, .unset, .unset, .unset, .unset, .unset, .unset, .unset, .unset, .unset] [(.ref b10)])) st10 ?_
  refine own_by (V := T10.setTop (mkF m 24 #[.val (.long q0), .second, .val (.long q1), .second, .val (.long q2), .second, .val (.double (0 : UInt64)), .second, .val (.double (4602678819172646912 : UInt64)), .second, .val (.double (4607182418800017408 : UInt64)), .second, .val (.ref b1), .unset, .unset, .unset, .unset, .unset, .unset, .unset, .unset, .unset, .unset, .unset, .unset, .unset, .unset] [(.ref b10), (.ref b10)])) (fun t k => XS.dup X10.here hx rfl (hb hby at_23) rfl rfl k) ?_
  obtain ⟨_, _, ⟨T25, Lq25, kq25, nq25⟩, -, X25, ⟨Lc25, hQ25, lq25, yq25, zq25⟩, st25⟩ := X10.specialBack hx (y := (⟨"com/example/nocord/nocord/bench/Latencies", "<init>", "()V"⟩ : MethodName)) rfl hown (mvT hZ (hw _ (List.mem_of_getElem? (i := 4) rfl))) (mvT hZ (hw _ (List.mem_of_getElem? (i := 5) rfl))) (mvT hZ (hw _ (List.mem_of_getElem? (i := 6) rfl))) (by decide) (backOf (W := 1) (own_rinit l Z a0 hw [] b10 h10 n0 Zs10 gn10 A10 f23 f24) hZ (hw _ (List.mem_of_getElem? (i := 6) rfl)) (hw _ (List.mem_of_getElem? (i := 3) rfl)) (by decide) (by decide)) (g := (mkF m 24 #[.val (.long q0), .second, .val (.long q1), .second, .val (.long q2), .second, .val (.double (0 : UInt64)), .second, .val (.double (4602678819172646912 : UInt64)), .second, .val (.double (4607182418800017408 : UInt64)), .second, .val (.ref b1), .unset, .unset, .unset, .unset, .unset, .unset, .unset, .unset, .unset, .unset, .unset, .unset, .unset, .unset] [(.ref b10), (.ref b10)])) rfl (by rw [hml]; rfl) (Steps.refl _) (a := b10) (argsL := []) (rest := [(.ref b10)]) (lenOf own_pd6 rfl) rfl (by show 2 * 0 + _ ≤ _; exact Nat.le_of_eq rfl) (hb hby at_24) (fun _ _ => ⟨rfl, e10, (by decide : 3 + 1 ≤ _), (by decide : 7300 + 7296 ≤ _)⟩)
  dsimp only [Pt.U, Pt.locs, Pt.cells, Pt.slots] at X25 lq25 yq25 zq25 st25 hQ25
  subst lq25 yq25 zq25
  obtain ⟨b25, kb25, rfl, N25q, Kc25, hf25_b, g25_0, g25_1, g25_2, g25_3⟩ := hQ25
  have N25 := Fr.app N5 N25q
  have ne26 : b1 ≠ b25 := Nat.ne_of_lt (Nat.lt_of_lt_of_le f14.lt hf25_b)
  have ne27 : b5 ≠ b25 := Nat.ne_of_lt (Nat.lt_of_lt_of_le f20.lt hf25_b)
  have ne28 : b10 ≠ b25 := Nat.ne_of_lt (Nat.lt_of_lt_of_le A10.lt hf25_b)
  have gn25_b : n0 ≤ b25 := Nat.le_trans Zs10 hf25_b
  have f29 := f14.keep Kc25
  have f30 := f18.keep Kc25 (ninS ne11 nin0)
  have f31 := f19.keep Kc25 (ninS ne11 nin0)
  have f32 := f20.keep Kc25 (ninS ne12 nin0)
  have f33 := A10.keep Kc25
  have O25 := O10.keep Kc25 (allS gn10 all0)
  have Zs25 : n0 ≤ T25.heap.size := Nat.le_trans Zs10 Kc25.1
  refine own_by (V := T25.setTop (mkF m 27 #[.val (.long q0), .second, .val (.long q1), .second, .val (.long q2), .second, .val (.double (0 : UInt64)), .second, .val (.double (4602678819172646912 : UInt64)), .second, .val (.double (4607182418800017408 : UInt64)), .second, .val (.ref b1), .unset, .unset, .unset, .unset, .unset, .unset, .unset, .unset, .unset, .unset, .unset, .unset, .unset, .unset] [(.ref b10)])) (fun t k => st25.trans k) ?_
  refine own_by (V := T25.setTop (mkF m 29 #[.val (.long q0), .second, .val (.long q1), .second, .val (.long q2), .second, .val (.double (0 : UInt64)), .second, .val (.double (4602678819172646912 : UInt64)), .second, .val (.double (4607182418800017408 : UInt64)), .second, .val (.ref b1), .val (.ref b10), .unset, .unset, .unset, .unset, .unset, .unset, .unset, .unset, .unset, .unset, .unset, .unset, .unset] [])) (fun t k => XS.astore X25.here hx rfl (hb hby at_27) rfl rfl (l' := #[.val (.long q0), .second, .val (.long q1), .second, .val (.long q2), .second, .val (.double (0 : UInt64)), .second, .val (.double (4602678819172646912 : UInt64)), .second, .val (.double (4607182418800017408 : UInt64)), .second, .val (.ref b1), .val (.ref b10), .unset, .unset, .unset, .unset, .unset, .unset, .unset, .unset, .unset, .unset, .unset, .unset, .unset]) rfl k) ?_
  refine own_by (V := T25.setTop (mkF m 31 #[.val (.long q0), .second, .val (.long q1), .second, .val (.long q2), .second, .val (.double (0 : UInt64)), .second, .val (.double (4602678819172646912 : UInt64)), .second, .val (.double (4607182418800017408 : UInt64)), .second, .val (.ref b1), .val (.ref b10), .unset, .unset, .unset, .unset, .unset, .unset, .unset, .unset, .unset, .unset, .unset, .unset, .unset] [(.ref b1)])) (fun t k => XS.aload X25.here hx rfl (hb hby at_29) rfl rfl k) ?_
  refine own_by (V := T25.setTop (mkF m 32 #[.val (.long q0), .second, .val (.long q1), .second, .val (.long q2), .second, .val (.double (0 : UInt64)), .second, .val (.double (4602678819172646912 : UInt64)), .second, .val (.double (4607182418800017408 : UInt64)), .second, .val (.ref b1), .val (.ref b10), .unset, .unset, .unset, .unset, .unset, .unset, .unset, .unset, .unset, .unset, .unset, .unset, .unset] [(.long q0), (.ref b1)])) (fun t k => XS.lloadN X25.here hx rfl (hb hby at_31) rfl  k) ?_
  obtain ⟨cq37, kq37, q37a, q37b, q37c⟩ := isOf hZ rfl f29
  obtain ⟨_, _, ⟨T36, Lq36, kq36, nq36⟩, -, X36, ⟨Lc36, hQ36, lq36, yq36, zq36⟩, st36⟩ := X25.virtualBack hx (y := (⟨"com/example/nocord/nocord/bench/Latencies", "record", "(J)V"⟩ : MethodName)) (z := (⟨"com/example/nocord/nocord/bench/Latencies", "record", "(J)V"⟩ : MethodName)) hown (mvT hZ (hw _ (List.mem_of_getElem? (i := 13) rfl))) (mvT hZ (hw _ (List.mem_of_getElem? (i := 14) rfl))) (notFace_of_selects (args := #[]) (mvT hZ (hw _ (List.mem_of_getElem? (i := 16) rfl)))) (mvT hZ (hw _ (List.mem_of_getElem? (i := 16) rfl))) (mvT hZ (hw _ (List.mem_of_getElem? (i := 15) rfl))) (by decide) (backOf (W := 0) (own_rrec l Z a0 hw [] b1 q0 b5 kb5 (fun _ => (0 : Int64)) (0 : Int64) T25.heap n0 Zs25 gn1 gn5_b ne6 f29 f30 f31 f32) hZ (hw _ (List.mem_of_getElem? (i := 17) rfl)) (hw _ (List.mem_of_getElem? (i := 3) rfl)) (by decide) (by decide)) q37a q37c (g := (mkF m 32 #[.val (.long q0), .second, .val (.long q1), .second, .val (.long q2), .second, .val (.double (0 : UInt64)), .second, .val (.double (4602678819172646912 : UInt64)), .second, .val (.double (4607182418800017408 : UInt64)), .second, .val (.ref b1), .val (.ref b10), .unset, .unset, .unset, .unset, .unset, .unset, .unset, .unset, .unset, .unset, .unset, .unset, .unset] [(.long q0), (.ref b1)])) rfl (by rw [hml]; rfl) (Steps.refl _) (argsL := [(.long q0)]) (rest := []) (lenOf own_pd7 rfl) rfl (by show 2 * 0 + _ ≤ _; exact Nat.le_of_eq rfl) (hb hby at_32) (fun _ _ => ⟨rfl, rfl, (by decide : 4 + 0 ≤ _), (by decide : 14596 + 0 ≤ _)⟩)
  dsimp only [Pt.U, Pt.locs, Pt.cells, Pt.slots] at X36 lq36 yq36 zq36 st36 hQ36
  subst lq36 yq36 zq36
  obtain ⟨kk36, rfl, N36q, Kc36, g36_0, g36_1, g36_2, g36_3, g36_4⟩ := hQ36
  have N36 := Fr.app N25 N36q
  have f38 := f29.keep Kc36
  have f42 := g25_0.keep Kc36
  have f43 := g25_1.keep Kc36 (ninS (Ne.symm ne11) (ninS (Ne.symm ne12) nin0))
  have f44 := g25_2.keep Kc36 (ninS (Ne.symm ne11) (ninS (Ne.symm ne12) nin0))
  have f45 := g25_3.keep Kc36 (ninS (Ne.symm ne26) (ninS (Ne.symm ne27) nin0))
  have O36 := O25.keep Kc36 (allS gn1 (allS gn5_b all0))
  have Zs36 : n0 ≤ T36.heap.size := Nat.le_trans Zs25 Kc36.1
  refine own_by (V := T36.setTop (mkF m 35 #[.val (.long q0), .second, .val (.long q1), .second, .val (.long q2), .second, .val (.double (0 : UInt64)), .second, .val (.double (4602678819172646912 : UInt64)), .second, .val (.double (4607182418800017408 : UInt64)), .second, .val (.ref b1), .val (.ref b10), .unset, .unset, .unset, .unset, .unset, .unset, .unset, .unset, .unset, .unset, .unset, .unset, .unset] [])) (fun t k => st36.trans k) ?_
  have tl46 : Fld Z T36.heap b1 "com/example/nocord/nocord/bench/Latencies" "total" "J" (.long (1 : Int64)) := by have q := g36_2; rw [show ((0 : Int64) + (1 : Int64)) = (1 : Int64) from by decide] at q; exact q
  refine own_by (V := T36.setTop (mkF m 37 #[.val (.long q0), .second, .val (.long q1), .second, .val (.long q2), .second, .val (.double (0 : UInt64)), .second, .val (.double (4602678819172646912 : UInt64)), .second, .val (.double (4607182418800017408 : UInt64)), .second, .val (.ref b1), .val (.ref b10), .unset, .unset, .unset, .unset, .unset, .unset, .unset, .unset, .unset, .unset, .unset, .unset, .unset] [(.ref b10)])) (fun t k => XS.aload X36.here hx rfl (hb hby at_35) rfl rfl k) ?_
  refine own_by (V := T36.setTop (mkF m 38 #[.val (.long q0), .second, .val (.long q1), .second, .val (.long q2), .second, .val (.double (0 : UInt64)), .second, .val (.double (4602678819172646912 : UInt64)), .second, .val (.double (4607182418800017408 : UInt64)), .second, .val (.ref b1), .val (.ref b10), .unset, .unset, .unset, .unset, .unset, .unset, .unset, .unset, .unset, .unset, .unset, .unset, .unset] [(.long q1), (.ref b10)])) (fun t k => XS.lloadN X36.here hx rfl (hb hby at_37) rfl  k) ?_
  obtain ⟨cq48, kq48, q48a, q48b, q48c⟩ := isOf hZ rfl f42
  obtain ⟨_, _, ⟨T47, Lq47, kq47, nq47⟩, -, X47, ⟨Lc47, hQ47, lq47, yq47, zq47⟩, st47⟩ := X36.virtualBack hx (y := (⟨"com/example/nocord/nocord/bench/Latencies", "record", "(J)V"⟩ : MethodName)) (z := (⟨"com/example/nocord/nocord/bench/Latencies", "record", "(J)V"⟩ : MethodName)) hown (mvT hZ (hw _ (List.mem_of_getElem? (i := 13) rfl))) (mvT hZ (hw _ (List.mem_of_getElem? (i := 14) rfl))) (notFace_of_selects (args := #[]) (mvT hZ (hw _ (List.mem_of_getElem? (i := 16) rfl)))) (mvT hZ (hw _ (List.mem_of_getElem? (i := 16) rfl))) (mvT hZ (hw _ (List.mem_of_getElem? (i := 15) rfl))) (by decide) (backOf (W := 0) (own_rrec l Z a0 hw [] b10 q1 b25 kb25 (fun _ => (0 : Int64)) (0 : Int64) T36.heap n0 Zs36 gn10 gn25_b ne28 f42 f43 f44 f45) hZ (hw _ (List.mem_of_getElem? (i := 17) rfl)) (hw _ (List.mem_of_getElem? (i := 3) rfl)) (by decide) (by decide)) q48a q48c (g := (mkF m 38 #[.val (.long q0), .second, .val (.long q1), .second, .val (.long q2), .second, .val (.double (0 : UInt64)), .second, .val (.double (4602678819172646912 : UInt64)), .second, .val (.double (4607182418800017408 : UInt64)), .second, .val (.ref b1), .val (.ref b10), .unset, .unset, .unset, .unset, .unset, .unset, .unset, .unset, .unset, .unset, .unset, .unset, .unset] [(.long q1), (.ref b10)])) rfl (by rw [hml]; rfl) (Steps.refl _) (argsL := [(.long q1)]) (rest := []) (lenOf own_pd7 rfl) rfl (by show 2 * 0 + _ ≤ _; exact Nat.le_of_eq rfl) (hb hby at_38) (fun _ _ => ⟨rfl, rfl, (by decide : 4 + 0 ≤ _), (by decide : 14596 + 0 ≤ _)⟩)
  dsimp only [Pt.U, Pt.locs, Pt.cells, Pt.slots] at X47 lq47 yq47 zq47 st47 hQ47
  subst lq47 yq47 zq47
  obtain ⟨kk47, rfl, N47q, Kc47, g47_0, g47_1, g47_2, g47_3, g47_4⟩ := hQ47
  have N47 := Fr.app N36 N47q
  have f49 := g36_0.keep Kc47
  have f50 := f42.keep Kc47
  have f54 := g36_1.keep Kc47 (ninS ne11 (ninS ne26 nin0))
  have f55 := tl46.keep Kc47 (ninS ne11 (ninS ne26 nin0))
  have f56 := g36_3.keep Kc47 (ninS ne12 (ninS ne27 nin0))
  have O47 := O36.keep Kc47 (allS gn10 (allS gn25_b all0))
  have Zs47 : n0 ≤ T47.heap.size := Nat.le_trans Zs36 Kc47.1
  refine own_by (V := T47.setTop (mkF m 41 #[.val (.long q0), .second, .val (.long q1), .second, .val (.long q2), .second, .val (.double (0 : UInt64)), .second, .val (.double (4602678819172646912 : UInt64)), .second, .val (.double (4607182418800017408 : UInt64)), .second, .val (.ref b1), .val (.ref b10), .unset, .unset, .unset, .unset, .unset, .unset, .unset, .unset, .unset, .unset, .unset, .unset, .unset] [])) (fun t k => st47.trans k) ?_
  have tl57 : Fld Z T47.heap b10 "com/example/nocord/nocord/bench/Latencies" "total" "J" (.long (1 : Int64)) := by have q := g47_2; rw [show ((0 : Int64) + (1 : Int64)) = (1 : Int64) from by decide] at q; exact q
  refine own_by (V := T47.setTop (mkF m 43 #[.val (.long q0), .second, .val (.long q1), .second, .val (.long q2), .second, .val (.double (0 : UInt64)), .second, .val (.double (4602678819172646912 : UInt64)), .second, .val (.double (4607182418800017408 : UInt64)), .second, .val (.ref b1), .val (.ref b10), .unset, .unset, .unset, .unset, .unset, .unset, .unset, .unset, .unset, .unset, .unset, .unset, .unset] [(.ref b10)])) (fun t k => XS.aload X47.here hx rfl (hb hby at_41) rfl rfl k) ?_
  refine own_by (V := T47.setTop (mkF m 45 #[.val (.long q0), .second, .val (.long q1), .second, .val (.long q2), .second, .val (.double (0 : UInt64)), .second, .val (.double (4602678819172646912 : UInt64)), .second, .val (.double (4607182418800017408 : UInt64)), .second, .val (.ref b1), .val (.ref b10), .unset, .unset, .unset, .unset, .unset, .unset, .unset, .unset, .unset, .unset, .unset, .unset, .unset] [(.long q2), (.ref b10)])) (fun t k => XS.lload X47.here hx rfl (hb hby at_43) rfl  k) ?_
  obtain ⟨cq59, kq59, q59a, q59b, q59c⟩ := isOf hZ rfl g47_0
  obtain ⟨_, _, ⟨T58, Lq58, kq58, nq58⟩, -, X58, ⟨Lc58, hQ58, lq58, yq58, zq58⟩, st58⟩ := X47.virtualBack hx (y := (⟨"com/example/nocord/nocord/bench/Latencies", "record", "(J)V"⟩ : MethodName)) (z := (⟨"com/example/nocord/nocord/bench/Latencies", "record", "(J)V"⟩ : MethodName)) hown (mvT hZ (hw _ (List.mem_of_getElem? (i := 13) rfl))) (mvT hZ (hw _ (List.mem_of_getElem? (i := 14) rfl))) (notFace_of_selects (args := #[]) (mvT hZ (hw _ (List.mem_of_getElem? (i := 16) rfl)))) (mvT hZ (hw _ (List.mem_of_getElem? (i := 16) rfl))) (mvT hZ (hw _ (List.mem_of_getElem? (i := 15) rfl))) (by decide) (backOf (W := 0) (own_rrec l Z a0 hw [] b10 q2 b25 kb25 (own_inc (fun _ => (0 : Int64)) kk47) (1 : Int64) T47.heap n0 Zs47 gn10 gn25_b ne28 g47_0 g47_1 tl57 g47_3) hZ (hw _ (List.mem_of_getElem? (i := 17) rfl)) (hw _ (List.mem_of_getElem? (i := 3) rfl)) (by decide) (by decide)) q59a q59c (g := (mkF m 45 #[.val (.long q0), .second, .val (.long q1), .second, .val (.long q2), .second, .val (.double (0 : UInt64)), .second, .val (.double (4602678819172646912 : UInt64)), .second, .val (.double (4607182418800017408 : UInt64)), .second, .val (.ref b1), .val (.ref b10), .unset, .unset, .unset, .unset, .unset, .unset, .unset, .unset, .unset, .unset, .unset, .unset, .unset] [(.long q2), (.ref b10)])) rfl (by rw [hml]; rfl) (Steps.refl _) (argsL := [(.long q2)]) (rest := []) (lenOf own_pd7 rfl) rfl (by show 2 * 0 + _ ≤ _; exact Nat.le_of_eq rfl) (hb hby at_45) (fun _ _ => ⟨rfl, rfl, (by decide : 4 + 0 ≤ _), (by decide : 14596 + 0 ≤ _)⟩)
  dsimp only [Pt.U, Pt.locs, Pt.cells, Pt.slots] at X58 lq58 yq58 zq58 st58 hQ58
  subst lq58 yq58 zq58
  obtain ⟨kk58, rfl, N58q, Kc58, g58_0, g58_1, g58_2, g58_3, g58_4⟩ := hQ58
  have N58 := Fr.app N47 N58q
  have f60 := f49.keep Kc58
  have f61 := g47_0.keep Kc58
  have f62 := f54.keep Kc58 (ninS ne11 (ninS ne26 nin0))
  have f63 := f55.keep Kc58 (ninS ne11 (ninS ne26 nin0))
  have f64 := f56.keep Kc58 (ninS ne12 (ninS ne27 nin0))
  have O58 := O47.keep Kc58 (allS gn10 (allS gn25_b all0))
  have Zs58 : n0 ≤ T58.heap.size := Nat.le_trans Zs47 Kc58.1
  refine own_by (V := T58.setTop (mkF m 48 #[.val (.long q0), .second, .val (.long q1), .second, .val (.long q2), .second, .val (.double (0 : UInt64)), .second, .val (.double (4602678819172646912 : UInt64)), .second, .val (.double (4607182418800017408 : UInt64)), .second, .val (.ref b1), .val (.ref b10), .unset, .unset, .unset, .unset, .unset, .unset, .unset, .unset, .unset, .unset, .unset, .unset, .unset] [])) (fun t k => st58.trans k) ?_
  have tl68 : Fld Z T58.heap b10 "com/example/nocord/nocord/bench/Latencies" "total" "J" (.long (2 : Int64)) := by have q := g58_2; rw [show ((1 : Int64) + (1 : Int64)) = (2 : Int64) from by decide] at q; exact q
  refine own_by (V := T58.setTop (mkF m 50 #[.val (.long q0), .second, .val (.long q1), .second, .val (.long q2), .second, .val (.double (0 : UInt64)), .second, .val (.double (4602678819172646912 : UInt64)), .second, .val (.double (4607182418800017408 : UInt64)), .second, .val (.ref b1), .val (.ref b10), .unset, .unset, .unset, .unset, .unset, .unset, .unset, .unset, .unset, .unset, .unset, .unset, .unset] [(.ref b1)])) (fun t k => XS.aload X58.here hx rfl (hb hby at_48) rfl rfl k) ?_
  refine own_by (V := T58.setTop (mkF m 52 #[.val (.long q0), .second, .val (.long q1), .second, .val (.long q2), .second, .val (.double (0 : UInt64)), .second, .val (.double (4602678819172646912 : UInt64)), .second, .val (.double (4607182418800017408 : UInt64)), .second, .val (.ref b1), .val (.ref b10), .unset, .unset, .unset, .unset, .unset, .unset, .unset, .unset, .unset, .unset, .unset, .unset, .unset] [(.double (0 : UInt64)), (.ref b1)])) (fun t k => XS.dload X58.here hx rfl (hb hby at_50) rfl  k) ?_
  obtain ⟨cq70, kq70, q70a, q70b, q70c⟩ := isOf hZ rfl f60
  obtain ⟨_, _, ⟨T69, Lq69, kq69, nq69⟩, -, X69, ⟨Lc69, hQ69, lq69, yq69, zq69⟩, st69⟩ := X58.virtualBack hx (y := (⟨"com/example/nocord/nocord/bench/Latencies", "percentile", "(D)J"⟩ : MethodName)) (z := (⟨"com/example/nocord/nocord/bench/Latencies", "percentile", "(D)J"⟩ : MethodName)) hown (mvT hZ (hw _ (List.mem_of_getElem? (i := 28) rfl))) (mvT hZ (hw _ (List.mem_of_getElem? (i := 29) rfl))) (notFace_of_selects (args := #[]) (mvT hZ (hw _ (List.mem_of_getElem? (i := 31) rfl)))) (mvT hZ (hw _ (List.mem_of_getElem? (i := 31) rfl))) (mvT hZ (hw _ (List.mem_of_getElem? (i := 30) rfl))) (by decide) (backOf (W := 0) (own_rpct_0_1 l Z a0 hw [] b1 b5 kb5 (own_inc (fun _ => (0 : Int64)) kk36) T58.heap n0 Zs58 f62 f63 f64 (own_small_of (own_leA kk36) (by decide)) (own_totA g36_4) (SA.ext O58.2)) hZ (hw _ (List.mem_of_getElem? (i := 32) rfl)) (hw _ (List.mem_of_getElem? (i := 3) rfl)) (by decide) (by decide)) q70a q70c (g := (mkF m 52 #[.val (.long q0), .second, .val (.long q1), .second, .val (.long q2), .second, .val (.double (0 : UInt64)), .second, .val (.double (4602678819172646912 : UInt64)), .second, .val (.double (4607182418800017408 : UInt64)), .second, .val (.ref b1), .val (.ref b10), .unset, .unset, .unset, .unset, .unset, .unset, .unset, .unset, .unset, .unset, .unset, .unset, .unset] [(.double (0 : UInt64)), (.ref b1)])) rfl (by rw [hml]; rfl) (Steps.refl _) (argsL := [(.double (0 : UInt64))]) (rest := []) (lenOf own_pd8 rfl) rfl (by show 2 * 0 + _ ≤ _; exact Nat.le_of_eq rfl) (hb hby at_52) (fun _ _ => ⟨rfl, rfl, (by decide : 4 + 0 ≤ _), (by decide : 14596 + 0 ≤ _)⟩)
  dsimp only [Pt.U, Pt.locs, Pt.cells, Pt.slots] at X69 lq69 yq69 zq69 st69 hQ69
  subst lq69 yq69 zq69
  obtain ⟨ix69, rfl, N69q, e69, g69_0⟩ := hQ69
  have N69 := Fr.app N58 N69q
  refine own_by (V := T69.setTop (mkF m 55 #[.val (.long q0), .second, .val (.long q1), .second, .val (.long q2), .second, .val (.double (0 : UInt64)), .second, .val (.double (4602678819172646912 : UInt64)), .second, .val (.double (4607182418800017408 : UInt64)), .second, .val (.ref b1), .val (.ref b10), .unset, .unset, .unset, .unset, .unset, .unset, .unset, .unset, .unset, .unset, .unset, .unset, .unset] [(.long (own_mid ix69))])) (fun t k => st69.trans k) ?_
  refine own_by (V := T69.setTop (mkF m 57 #[.val (.long q0), .second, .val (.long q1), .second, .val (.long q2), .second, .val (.double (0 : UInt64)), .second, .val (.double (4602678819172646912 : UInt64)), .second, .val (.double (4607182418800017408 : UInt64)), .second, .val (.ref b1), .val (.ref b10), .val (.long (own_mid ix69)), .second, .unset, .unset, .unset, .unset, .unset, .unset, .unset, .unset, .unset, .unset, .unset] [])) (fun t k => XS.lstore X69.here hx rfl (hb hby at_55) rfl (l' := #[.val (.long q0), .second, .val (.long q1), .second, .val (.long q2), .second, .val (.double (0 : UInt64)), .second, .val (.double (4602678819172646912 : UInt64)), .second, .val (.double (4607182418800017408 : UInt64)), .second, .val (.ref b1), .val (.ref b10), .val (.long (own_mid ix69)), .second, .unset, .unset, .unset, .unset, .unset, .unset, .unset, .unset, .unset, .unset, .unset]) rfl k) ?_
  refine own_by (V := T69.setTop (mkF m 59 #[.val (.long q0), .second, .val (.long q1), .second, .val (.long q2), .second, .val (.double (0 : UInt64)), .second, .val (.double (4602678819172646912 : UInt64)), .second, .val (.double (4607182418800017408 : UInt64)), .second, .val (.ref b1), .val (.ref b10), .val (.long (own_mid ix69)), .second, .unset, .unset, .unset, .unset, .unset, .unset, .unset, .unset, .unset, .unset, .unset] [(.ref b10)])) (fun t k => XS.aload X69.here hx rfl (hb hby at_57) rfl rfl k) ?_
  refine own_by (V := T69.setTop (mkF m 61 #[.val (.long q0), .second, .val (.long q1), .second, .val (.long q2), .second, .val (.double (0 : UInt64)), .second, .val (.double (4602678819172646912 : UInt64)), .second, .val (.double (4607182418800017408 : UInt64)), .second, .val (.ref b1), .val (.ref b10), .val (.long (own_mid ix69)), .second, .unset, .unset, .unset, .unset, .unset, .unset, .unset, .unset, .unset, .unset, .unset] [(.double (0 : UInt64)), (.ref b10)])) (fun t k => XS.dload X69.here hx rfl (hb hby at_59) rfl  k) ?_
  obtain ⟨cq72, kq72, q72a, q72b, q72c⟩ := isOf hZ e69 g58_0
  obtain ⟨_, _, ⟨T71, Lq71, kq71, nq71⟩, -, X71, ⟨Lc71, hQ71, lq71, yq71, zq71⟩, st71⟩ := X69.virtualBack hx (y := (⟨"com/example/nocord/nocord/bench/Latencies", "percentile", "(D)J"⟩ : MethodName)) (z := (⟨"com/example/nocord/nocord/bench/Latencies", "percentile", "(D)J"⟩ : MethodName)) hown (mvT hZ (hw _ (List.mem_of_getElem? (i := 28) rfl))) (mvT hZ (hw _ (List.mem_of_getElem? (i := 29) rfl))) (notFace_of_selects (args := #[]) (mvT hZ (hw _ (List.mem_of_getElem? (i := 31) rfl)))) (mvT hZ (hw _ (List.mem_of_getElem? (i := 31) rfl))) (mvT hZ (hw _ (List.mem_of_getElem? (i := 30) rfl))) (by decide) (backOf (W := 0) (own_rpct_0_2 l Z a0 hw [] b10 b25 kb25 (own_inc (own_inc (fun _ => (0 : Int64)) kk47) kk58) T58.heap n0 Zs58 g58_1 tl68 g58_3 (own_small_of (own_leB kk47 kk58) (by decide)) (own_totB g47_4 g58_4) (SA.ext O58.2)) hZ (hw _ (List.mem_of_getElem? (i := 32) rfl)) (hw _ (List.mem_of_getElem? (i := 3) rfl)) (by decide) (by decide)) q72a q72c (g := (mkF m 61 #[.val (.long q0), .second, .val (.long q1), .second, .val (.long q2), .second, .val (.double (0 : UInt64)), .second, .val (.double (4602678819172646912 : UInt64)), .second, .val (.double (4607182418800017408 : UInt64)), .second, .val (.ref b1), .val (.ref b10), .val (.long (own_mid ix69)), .second, .unset, .unset, .unset, .unset, .unset, .unset, .unset, .unset, .unset, .unset, .unset] [(.double (0 : UInt64)), (.ref b10)])) rfl (by rw [hml]; rfl) (Steps.refl _) (argsL := [(.double (0 : UInt64))]) (rest := []) (lenOf own_pd8 rfl) rfl (by show 2 * 0 + _ ≤ _; exact Nat.le_of_eq rfl) (hb hby at_61) (fun _ _ => ⟨rfl, e69, (by decide : 4 + 0 ≤ _), (by decide : 14596 + 0 ≤ _)⟩)
  dsimp only [Pt.U, Pt.locs, Pt.cells, Pt.slots] at X71 lq71 yq71 zq71 st71 hQ71
  subst lq71 yq71 zq71
  obtain ⟨ix71, rfl, N71q, e71, g71_0⟩ := hQ71
  have N71 := Fr.app N69 N71q
  refine own_by (V := T71.setTop (mkF m 64 #[.val (.long q0), .second, .val (.long q1), .second, .val (.long q2), .second, .val (.double (0 : UInt64)), .second, .val (.double (4602678819172646912 : UInt64)), .second, .val (.double (4607182418800017408 : UInt64)), .second, .val (.ref b1), .val (.ref b10), .val (.long (own_mid ix69)), .second, .unset, .unset, .unset, .unset, .unset, .unset, .unset, .unset, .unset, .unset, .unset] [(.long (own_mid ix71))])) (fun t k => st71.trans k) ?_
  refine own_by (V := T71.setTop (mkF m 66 #[.val (.long q0), .second, .val (.long q1), .second, .val (.long q2), .second, .val (.double (0 : UInt64)), .second, .val (.double (4602678819172646912 : UInt64)), .second, .val (.double (4607182418800017408 : UInt64)), .second, .val (.ref b1), .val (.ref b10), .val (.long (own_mid ix69)), .second, .val (.long (own_mid ix71)), .second, .unset, .unset, .unset, .unset, .unset, .unset, .unset, .unset, .unset] [])) (fun t k => XS.lstore X71.here hx rfl (hb hby at_64) rfl (l' := #[.val (.long q0), .second, .val (.long q1), .second, .val (.long q2), .second, .val (.double (0 : UInt64)), .second, .val (.double (4602678819172646912 : UInt64)), .second, .val (.double (4607182418800017408 : UInt64)), .second, .val (.ref b1), .val (.ref b10), .val (.long (own_mid ix69)), .second, .val (.long (own_mid ix71)), .second, .unset, .unset, .unset, .unset, .unset, .unset, .unset, .unset, .unset]) rfl k) ?_
  refine own_by (V := T71.setTop (mkF m 68 #[.val (.long q0), .second, .val (.long q1), .second, .val (.long q2), .second, .val (.double (0 : UInt64)), .second, .val (.double (4602678819172646912 : UInt64)), .second, .val (.double (4607182418800017408 : UInt64)), .second, .val (.ref b1), .val (.ref b10), .val (.long (own_mid ix69)), .second, .val (.long (own_mid ix71)), .second, .unset, .unset, .unset, .unset, .unset, .unset, .unset, .unset, .unset] [(.ref b10)])) (fun t k => XS.aload X71.here hx rfl (hb hby at_66) rfl rfl k) ?_
  refine own_by (V := T71.setTop (mkF m 70 #[.val (.long q0), .second, .val (.long q1), .second, .val (.long q2), .second, .val (.double (0 : UInt64)), .second, .val (.double (4602678819172646912 : UInt64)), .second, .val (.double (4607182418800017408 : UInt64)), .second, .val (.ref b1), .val (.ref b10), .val (.long (own_mid ix69)), .second, .val (.long (own_mid ix71)), .second, .unset, .unset, .unset, .unset, .unset, .unset, .unset, .unset, .unset] [(.double (4607182418800017408 : UInt64)), (.ref b10)])) (fun t k => XS.dload X71.here hx rfl (hb hby at_68) rfl  k) ?_
  obtain ⟨cq74, kq74, q74a, q74b, q74c⟩ := isOf hZ e71 g58_0
  obtain ⟨_, _, ⟨T73, Lq73, kq73, nq73⟩, -, X73, ⟨Lc73, hQ73, lq73, yq73, zq73⟩, st73⟩ := X71.virtualBack hx (y := (⟨"com/example/nocord/nocord/bench/Latencies", "percentile", "(D)J"⟩ : MethodName)) (z := (⟨"com/example/nocord/nocord/bench/Latencies", "percentile", "(D)J"⟩ : MethodName)) hown (mvT hZ (hw _ (List.mem_of_getElem? (i := 28) rfl))) (mvT hZ (hw _ (List.mem_of_getElem? (i := 29) rfl))) (notFace_of_selects (args := #[]) (mvT hZ (hw _ (List.mem_of_getElem? (i := 31) rfl)))) (mvT hZ (hw _ (List.mem_of_getElem? (i := 31) rfl))) (mvT hZ (hw _ (List.mem_of_getElem? (i := 30) rfl))) (by decide) (backOf (W := 0) (own_rpct_2_2 l Z a0 hw [] b10 b25 kb25 (own_inc (own_inc (fun _ => (0 : Int64)) kk47) kk58) T58.heap n0 Zs58 g58_1 tl68 g58_3 (own_small_of (own_leB kk47 kk58) (by decide)) (own_totB g47_4 g58_4) (SA.ext O58.2)) hZ (hw _ (List.mem_of_getElem? (i := 32) rfl)) (hw _ (List.mem_of_getElem? (i := 3) rfl)) (by decide) (by decide)) q74a q74c (g := (mkF m 70 #[.val (.long q0), .second, .val (.long q1), .second, .val (.long q2), .second, .val (.double (0 : UInt64)), .second, .val (.double (4602678819172646912 : UInt64)), .second, .val (.double (4607182418800017408 : UInt64)), .second, .val (.ref b1), .val (.ref b10), .val (.long (own_mid ix69)), .second, .val (.long (own_mid ix71)), .second, .unset, .unset, .unset, .unset, .unset, .unset, .unset, .unset, .unset] [(.double (4607182418800017408 : UInt64)), (.ref b10)])) rfl (by rw [hml]; rfl) (Steps.refl _) (argsL := [(.double (4607182418800017408 : UInt64))]) (rest := []) (lenOf own_pd8 rfl) rfl (by show 2 * 0 + _ ≤ _; exact Nat.le_of_eq rfl) (hb hby at_70) (fun _ _ => ⟨rfl, e71, (by decide : 4 + 0 ≤ _), (by decide : 14596 + 0 ≤ _)⟩)
  dsimp only [Pt.U, Pt.locs, Pt.cells, Pt.slots] at X73 lq73 yq73 zq73 st73 hQ73
  subst lq73 yq73 zq73
  obtain ⟨ix73, rfl, N73q, e73, g73_0⟩ := hQ73
  have N73 := Fr.app N71 N73q
  refine own_by (V := T73.setTop (mkF m 73 #[.val (.long q0), .second, .val (.long q1), .second, .val (.long q2), .second, .val (.double (0 : UInt64)), .second, .val (.double (4602678819172646912 : UInt64)), .second, .val (.double (4607182418800017408 : UInt64)), .second, .val (.ref b1), .val (.ref b10), .val (.long (own_mid ix69)), .second, .val (.long (own_mid ix71)), .second, .unset, .unset, .unset, .unset, .unset, .unset, .unset, .unset, .unset] [(.long (own_mid ix73))])) (fun t k => st73.trans k) ?_
  refine own_by (V := T73.setTop (mkF m 75 #[.val (.long q0), .second, .val (.long q1), .second, .val (.long q2), .second, .val (.double (0 : UInt64)), .second, .val (.double (4602678819172646912 : UInt64)), .second, .val (.double (4607182418800017408 : UInt64)), .second, .val (.ref b1), .val (.ref b10), .val (.long (own_mid ix69)), .second, .val (.long (own_mid ix71)), .second, .val (.long (own_mid ix73)), .second, .unset, .unset, .unset, .unset, .unset, .unset, .unset] [])) (fun t k => XS.lstore X73.here hx rfl (hb hby at_73) rfl (l' := #[.val (.long q0), .second, .val (.long q1), .second, .val (.long q2), .second, .val (.double (0 : UInt64)), .second, .val (.double (4602678819172646912 : UInt64)), .second, .val (.double (4607182418800017408 : UInt64)), .second, .val (.ref b1), .val (.ref b10), .val (.long (own_mid ix69)), .second, .val (.long (own_mid ix71)), .second, .val (.long (own_mid ix73)), .second, .unset, .unset, .unset, .unset, .unset, .unset, .unset]) rfl k) ?_
  refine own_by (V := T73.setTop (mkF m 77 #[.val (.long q0), .second, .val (.long q1), .second, .val (.long q2), .second, .val (.double (0 : UInt64)), .second, .val (.double (4602678819172646912 : UInt64)), .second, .val (.double (4607182418800017408 : UInt64)), .second, .val (.ref b1), .val (.ref b10), .val (.long (own_mid ix69)), .second, .val (.long (own_mid ix71)), .second, .val (.long (own_mid ix73)), .second, .unset, .unset, .unset, .unset, .unset, .unset, .unset] [(.ref b1)])) (fun t k => XS.aload X73.here hx rfl (hb hby at_75) rfl rfl k) ?_
  refine own_by (V := T73.setTop (mkF m 79 #[.val (.long q0), .second, .val (.long q1), .second, .val (.long q2), .second, .val (.double (0 : UInt64)), .second, .val (.double (4602678819172646912 : UInt64)), .second, .val (.double (4607182418800017408 : UInt64)), .second, .val (.ref b1), .val (.ref b10), .val (.long (own_mid ix69)), .second, .val (.long (own_mid ix71)), .second, .val (.long (own_mid ix73)), .second, .unset, .unset, .unset, .unset, .unset, .unset, .unset] [(.ref b10), (.ref b1)])) (fun t k => XS.aload X73.here hx rfl (hb hby at_77) rfl rfl k) ?_
  obtain ⟨cq76, kq76, q76a, q76b, q76c⟩ := isOf hZ e73 f60
  obtain ⟨_, _, ⟨T75, Lq75, kq75, nq75⟩, -, X75, ⟨Lc75, hQ75, lq75, yq75, zq75⟩, st75⟩ := X73.virtualBack hx (y := (⟨"com/example/nocord/nocord/bench/Latencies", "add", "(Lcom/example/nocord/nocord/bench/Latencies;)V"⟩ : MethodName)) (z := (⟨"com/example/nocord/nocord/bench/Latencies", "add", "(Lcom/example/nocord/nocord/bench/Latencies;)V"⟩ : MethodName)) hown (mvT hZ (hw _ (List.mem_of_getElem? (i := 59) rfl))) (mvT hZ (hw _ (List.mem_of_getElem? (i := 60) rfl))) (notFace_of_selects (args := #[]) (mvT hZ (hw _ (List.mem_of_getElem? (i := 62) rfl)))) (mvT hZ (hw _ (List.mem_of_getElem? (i := 62) rfl))) (mvT hZ (hw _ (List.mem_of_getElem? (i := 61) rfl))) (by decide) (backOf (W := 0) (own_radd l Z a0 hw [] b1 b10 b5 kb5 (own_inc (fun _ => (0 : Int64)) kk36) (1 : Int64) b25 kb25 (own_inc (own_inc (fun _ => (0 : Int64)) kk47) kk58) (2 : Int64) T58.heap n0 Zs58 gn1 gn5_b ne6 f60 f62 f63 f64 g58_0 g58_1 tl68 g58_3 (Ne.symm ne12) (Ne.symm ne27) (Ne.symm ne11) (Ne.symm ne26)) hZ (hw _ (List.mem_of_getElem? (i := 63) rfl)) (hw _ (List.mem_of_getElem? (i := 3) rfl)) (by decide) (by decide)) q76a q76c (g := (mkF m 79 #[.val (.long q0), .second, .val (.long q1), .second, .val (.long q2), .second, .val (.double (0 : UInt64)), .second, .val (.double (4602678819172646912 : UInt64)), .second, .val (.double (4607182418800017408 : UInt64)), .second, .val (.ref b1), .val (.ref b10), .val (.long (own_mid ix69)), .second, .val (.long (own_mid ix71)), .second, .val (.long (own_mid ix73)), .second, .unset, .unset, .unset, .unset, .unset, .unset, .unset] [(.ref b10), (.ref b1)])) rfl (by rw [hml]; rfl) (Steps.refl _) (argsL := [(.ref b10)]) (rest := []) (lenOf own_pd9 rfl) rfl (by show 2 * 0 + _ ≤ _; exact Nat.le_of_eq rfl) (hb hby at_79) (fun _ _ => ⟨rfl, e73, (by decide : 4 + 0 ≤ _), (by decide : 14596 + 0 ≤ _)⟩)
  dsimp only [Pt.U, Pt.locs, Pt.cells, Pt.slots] at X75 lq75 yq75 zq75 st75 hQ75
  subst lq75 yq75 zq75
  obtain ⟨rfl, N75q, Kc75, g75_0, g75_1, g75_2, g75_3⟩ := hQ75
  have N75 := Fr.app N73 N75q
  have f77 := f60.keep Kc75
  have f78 := g58_0.keep Kc75
  have f82 := g58_1.keep Kc75 (ninS (Ne.symm ne11) (ninS (Ne.symm ne12) nin0))
  have f83 := tl68.keep Kc75 (ninS (Ne.symm ne11) (ninS (Ne.symm ne12) nin0))
  have f84 := g58_3.keep Kc75 (ninS (Ne.symm ne26) (ninS (Ne.symm ne27) nin0))
  have O75 := O58.keep Kc75 (allS gn1 (allS gn5_b all0))
  have Zs75 : n0 ≤ T75.heap.size := Nat.le_trans Zs58 Kc75.1
  refine own_by (V := T75.setTop (mkF m 82 #[.val (.long q0), .second, .val (.long q1), .second, .val (.long q2), .second, .val (.double (0 : UInt64)), .second, .val (.double (4602678819172646912 : UInt64)), .second, .val (.double (4607182418800017408 : UInt64)), .second, .val (.ref b1), .val (.ref b10), .val (.long (own_mid ix69)), .second, .val (.long (own_mid ix71)), .second, .val (.long (own_mid ix73)), .second, .unset, .unset, .unset, .unset, .unset, .unset, .unset] [])) (fun t k => st75.trans k) ?_
  have tl85 : Fld Z T75.heap b1 "com/example/nocord/nocord/bench/Latencies" "total" "J" (.long (3 : Int64)) := by have q := g75_2; rw [show ((1 : Int64) + (2 : Int64)) = (3 : Int64) from by decide] at q; exact q
  refine own_by (V := T75.setTop (mkF m 84 #[.val (.long q0), .second, .val (.long q1), .second, .val (.long q2), .second, .val (.double (0 : UInt64)), .second, .val (.double (4602678819172646912 : UInt64)), .second, .val (.double (4607182418800017408 : UInt64)), .second, .val (.ref b1), .val (.ref b10), .val (.long (own_mid ix69)), .second, .val (.long (own_mid ix71)), .second, .val (.long (own_mid ix73)), .second, .unset, .unset, .unset, .unset, .unset, .unset, .unset] [(.long (own_mid ix69))])) (fun t k => XS.lload X75.here hx rfl (hb hby at_82) rfl  k) ?_
  refine own_by (V := T75.setTop (mkF m 86 #[.val (.long q0), .second, .val (.long q1), .second, .val (.long q2), .second, .val (.double (0 : UInt64)), .second, .val (.double (4602678819172646912 : UInt64)), .second, .val (.double (4607182418800017408 : UInt64)), .second, .val (.ref b1), .val (.ref b10), .val (.long (own_mid ix69)), .second, .val (.long (own_mid ix71)), .second, .val (.long (own_mid ix73)), .second, .unset, .unset, .unset, .unset, .unset, .unset, .unset] [(.long (own_mid ix71)), (.long (own_mid ix69))])) (fun t k => XS.lload X75.here hx rfl (hb hby at_84) rfl  k) ?_
  obtain ⟨_, _, ⟨T86, Lq86, kq86, nq86⟩, -, X86, ⟨Lc86, hQ86, lq86, yq86, zq86⟩, st86⟩ := Jvm.LawKit.callS X75 hx (y := (⟨"java/lang/Math", "min", "(JJ)J"⟩ : MethodName)) hown (mvT hZ (hw _ (List.mem_of_getElem? (i := 64) rfl))) (mvT hZ (hw _ (List.mem_of_getElem? (i := 65) rfl))) (mvT hZ (hw _ (List.mem_of_getElem? (i := 20) rfl))) (mvT hZ (hw _ (List.mem_of_getElem? (i := 66) rfl))) (by decide) (backOf (W := 0) (own_rmin l Z a0 hw [] (own_mid ix69) (own_mid ix71) T75.heap n0) hZ (hw _ (List.mem_of_getElem? (i := 66) rfl)) (hw _ (List.mem_of_getElem? (i := 20) rfl)) (by decide) (by decide)) (g := (mkF m 86 #[.val (.long q0), .second, .val (.long q1), .second, .val (.long q2), .second, .val (.double (0 : UInt64)), .second, .val (.double (4602678819172646912 : UInt64)), .second, .val (.double (4607182418800017408 : UInt64)), .second, .val (.ref b1), .val (.ref b10), .val (.long (own_mid ix69)), .second, .val (.long (own_mid ix71)), .second, .val (.long (own_mid ix73)), .second, .unset, .unset, .unset, .unset, .unset, .unset, .unset] [(.long (own_mid ix71)), (.long (own_mid ix69))])) rfl (by rw [hml]; rfl) (argsL := [(.long (own_mid ix69)), (.long (own_mid ix71))]) (rest := []) (lenOf own_pd2 rfl) rfl (by show 2 * 0 + _ ≤ _; exact Nat.le_of_eq rfl) (hb hby at_86) (fun _ _ => ⟨rfl, rfl, (by decide : 4 + 0 ≤ _), (by decide : 14596 + 0 ≤ _)⟩)
  dsimp only [Pt.U, Pt.locs, Pt.cells, Pt.slots] at X86 lq86 yq86 zq86 st86 hQ86
  subst lq86 yq86 zq86
  obtain ⟨rfl, N86q, e86⟩ := hQ86
  have N86 := Fr.app N75 N86q
  refine own_by (V := T86.setTop (mkF m 89 #[.val (.long q0), .second, .val (.long q1), .second, .val (.long q2), .second, .val (.double (0 : UInt64)), .second, .val (.double (4602678819172646912 : UInt64)), .second, .val (.double (4607182418800017408 : UInt64)), .second, .val (.ref b1), .val (.ref b10), .val (.long (own_mid ix69)), .second, .val (.long (own_mid ix71)), .second, .val (.long (own_mid ix73)), .second, .unset, .unset, .unset, .unset, .unset, .unset, .unset] [(.long (own_min (own_mid ix69) (own_mid ix71)))])) st86 ?_
  refine own_by (V := T86.setTop (mkF m 91 #[.val (.long q0), .second, .val (.long q1), .second, .val (.long q2), .second, .val (.double (0 : UInt64)), .second, .val (.double (4602678819172646912 : UInt64)), .second, .val (.double (4607182418800017408 : UInt64)), .second, .val (.ref b1), .val (.ref b10), .val (.long (own_mid ix69)), .second, .val (.long (own_mid ix71)), .second, .val (.long (own_mid ix73)), .second, .val (.long (own_min (own_mid ix69) (own_mid ix71))), .second, .unset, .unset, .unset, .unset, .unset] [])) (fun t k => XS.lstore X86.here hx rfl (hb hby at_89) rfl (l' := #[.val (.long q0), .second, .val (.long q1), .second, .val (.long q2), .second, .val (.double (0 : UInt64)), .second, .val (.double (4602678819172646912 : UInt64)), .second, .val (.double (4607182418800017408 : UInt64)), .second, .val (.ref b1), .val (.ref b10), .val (.long (own_mid ix69)), .second, .val (.long (own_mid ix71)), .second, .val (.long (own_mid ix73)), .second, .val (.long (own_min (own_mid ix69) (own_mid ix71))), .second, .unset, .unset, .unset, .unset, .unset]) rfl k) ?_
  refine own_by (V := T86.setTop (mkF m 93 #[.val (.long q0), .second, .val (.long q1), .second, .val (.long q2), .second, .val (.double (0 : UInt64)), .second, .val (.double (4602678819172646912 : UInt64)), .second, .val (.double (4607182418800017408 : UInt64)), .second, .val (.ref b1), .val (.ref b10), .val (.long (own_mid ix69)), .second, .val (.long (own_mid ix71)), .second, .val (.long (own_mid ix73)), .second, .val (.long (own_min (own_mid ix69) (own_mid ix71))), .second, .unset, .unset, .unset, .unset, .unset] [(.long (own_mid ix69))])) (fun t k => XS.lload X86.here hx rfl (hb hby at_91) rfl  k) ?_
  refine own_by (V := T86.setTop (mkF m 95 #[.val (.long q0), .second, .val (.long q1), .second, .val (.long q2), .second, .val (.double (0 : UInt64)), .second, .val (.double (4602678819172646912 : UInt64)), .second, .val (.double (4607182418800017408 : UInt64)), .second, .val (.ref b1), .val (.ref b10), .val (.long (own_mid ix69)), .second, .val (.long (own_mid ix71)), .second, .val (.long (own_mid ix73)), .second, .val (.long (own_min (own_mid ix69) (own_mid ix71))), .second, .unset, .unset, .unset, .unset, .unset] [(.long (own_mid ix73)), (.long (own_mid ix69))])) (fun t k => XS.lload X86.here hx rfl (hb hby at_93) rfl  k) ?_
  obtain ⟨_, _, ⟨T87, Lq87, kq87, nq87⟩, -, X87, ⟨Lc87, hQ87, lq87, yq87, zq87⟩, st87⟩ := Jvm.LawKit.callS X86 hx (y := (⟨"java/lang/Math", "max", "(JJ)J"⟩ : MethodName)) hown (mvT hZ (hw _ (List.mem_of_getElem? (i := 67) rfl))) (mvT hZ (hw _ (List.mem_of_getElem? (i := 19) rfl))) (mvT hZ (hw _ (List.mem_of_getElem? (i := 20) rfl))) (mvT hZ (hw _ (List.mem_of_getElem? (i := 21) rfl))) (by decide) (backOf (W := 0) (own_rmax l Z a0 hw [] (own_mid ix69) (own_mid ix73) T75.heap n0) hZ (hw _ (List.mem_of_getElem? (i := 21) rfl)) (hw _ (List.mem_of_getElem? (i := 20) rfl)) (by decide) (by decide)) (g := (mkF m 95 #[.val (.long q0), .second, .val (.long q1), .second, .val (.long q2), .second, .val (.double (0 : UInt64)), .second, .val (.double (4602678819172646912 : UInt64)), .second, .val (.double (4607182418800017408 : UInt64)), .second, .val (.ref b1), .val (.ref b10), .val (.long (own_mid ix69)), .second, .val (.long (own_mid ix71)), .second, .val (.long (own_mid ix73)), .second, .val (.long (own_min (own_mid ix69) (own_mid ix71))), .second, .unset, .unset, .unset, .unset, .unset] [(.long (own_mid ix73)), (.long (own_mid ix69))])) rfl (by rw [hml]; rfl) (argsL := [(.long (own_mid ix69)), (.long (own_mid ix73))]) (rest := []) (lenOf own_pd2 rfl) rfl (by show 2 * 0 + _ ≤ _; exact Nat.le_of_eq rfl) (hb hby at_95) (fun _ _ => ⟨rfl, e86, (by decide : 4 + 0 ≤ _), (by decide : 14596 + 0 ≤ _)⟩)
  dsimp only [Pt.U, Pt.locs, Pt.cells, Pt.slots] at X87 lq87 yq87 zq87 st87 hQ87
  subst lq87 yq87 zq87
  obtain ⟨rfl, N87q, e87⟩ := hQ87
  have N87 := Fr.app N86 N87q
  refine own_by (V := T87.setTop (mkF m 98 #[.val (.long q0), .second, .val (.long q1), .second, .val (.long q2), .second, .val (.double (0 : UInt64)), .second, .val (.double (4602678819172646912 : UInt64)), .second, .val (.double (4607182418800017408 : UInt64)), .second, .val (.ref b1), .val (.ref b10), .val (.long (own_mid ix69)), .second, .val (.long (own_mid ix71)), .second, .val (.long (own_mid ix73)), .second, .val (.long (own_min (own_mid ix69) (own_mid ix71))), .second, .unset, .unset, .unset, .unset, .unset] [(.long (own_max (own_mid ix69) (own_mid ix73)))])) st87 ?_
  refine own_by (V := T87.setTop (mkF m 100 #[.val (.long q0), .second, .val (.long q1), .second, .val (.long q2), .second, .val (.double (0 : UInt64)), .second, .val (.double (4602678819172646912 : UInt64)), .second, .val (.double (4607182418800017408 : UInt64)), .second, .val (.ref b1), .val (.ref b10), .val (.long (own_mid ix69)), .second, .val (.long (own_mid ix71)), .second, .val (.long (own_mid ix73)), .second, .val (.long (own_min (own_mid ix69) (own_mid ix71))), .second, .val (.long (own_max (own_mid ix69) (own_mid ix73))), .second, .unset, .unset, .unset] [])) (fun t k => XS.lstore X87.here hx rfl (hb hby at_98) rfl (l' := #[.val (.long q0), .second, .val (.long q1), .second, .val (.long q2), .second, .val (.double (0 : UInt64)), .second, .val (.double (4602678819172646912 : UInt64)), .second, .val (.double (4607182418800017408 : UInt64)), .second, .val (.ref b1), .val (.ref b10), .val (.long (own_mid ix69)), .second, .val (.long (own_mid ix71)), .second, .val (.long (own_mid ix73)), .second, .val (.long (own_min (own_mid ix69) (own_mid ix71))), .second, .val (.long (own_max (own_mid ix69) (own_mid ix73))), .second, .unset, .unset, .unset]) rfl k) ?_
  refine own_by (V := T87.setTop (mkF m 102 #[.val (.long q0), .second, .val (.long q1), .second, .val (.long q2), .second, .val (.double (0 : UInt64)), .second, .val (.double (4602678819172646912 : UInt64)), .second, .val (.double (4607182418800017408 : UInt64)), .second, .val (.ref b1), .val (.ref b10), .val (.long (own_mid ix69)), .second, .val (.long (own_mid ix71)), .second, .val (.long (own_mid ix73)), .second, .val (.long (own_min (own_mid ix69) (own_mid ix71))), .second, .val (.long (own_max (own_mid ix69) (own_mid ix73))), .second, .unset, .unset, .unset] [(.long (own_mid ix71))])) (fun t k => XS.lload X87.here hx rfl (hb hby at_100) rfl  k) ?_
  refine own_by (V := T87.setTop (mkF m 104 #[.val (.long q0), .second, .val (.long q1), .second, .val (.long q2), .second, .val (.double (0 : UInt64)), .second, .val (.double (4602678819172646912 : UInt64)), .second, .val (.double (4607182418800017408 : UInt64)), .second, .val (.ref b1), .val (.ref b10), .val (.long (own_mid ix69)), .second, .val (.long (own_mid ix71)), .second, .val (.long (own_mid ix73)), .second, .val (.long (own_min (own_mid ix69) (own_mid ix71))), .second, .val (.long (own_max (own_mid ix69) (own_mid ix73))), .second, .unset, .unset, .unset] [(.long (own_mid ix69)), (.long (own_mid ix71))])) (fun t k => XS.lload X87.here hx rfl (hb hby at_102) rfl  k) ?_
  refine own_by (V := T87.setTop (mkF m 106 #[.val (.long q0), .second, .val (.long q1), .second, .val (.long q2), .second, .val (.double (0 : UInt64)), .second, .val (.double (4602678819172646912 : UInt64)), .second, .val (.double (4607182418800017408 : UInt64)), .second, .val (.ref b1), .val (.ref b10), .val (.long (own_mid ix69)), .second, .val (.long (own_mid ix71)), .second, .val (.long (own_mid ix73)), .second, .val (.long (own_min (own_mid ix69) (own_mid ix71))), .second, .val (.long (own_max (own_mid ix69) (own_mid ix73))), .second, .unset, .unset, .unset] [(.long (own_mid ix73)), (.long (own_mid ix69)), (.long (own_mid ix71))])) (fun t k => XS.lload X87.here hx rfl (hb hby at_104) rfl  k) ?_
  obtain ⟨_, _, ⟨T88, Lq88, kq88, nq88⟩, -, X88, ⟨Lc88, hQ88, lq88, yq88, zq88⟩, st88⟩ := Jvm.LawKit.callS X87 hx (y := (⟨"java/lang/Math", "min", "(JJ)J"⟩ : MethodName)) hown (mvT hZ (hw _ (List.mem_of_getElem? (i := 64) rfl))) (mvT hZ (hw _ (List.mem_of_getElem? (i := 65) rfl))) (mvT hZ (hw _ (List.mem_of_getElem? (i := 20) rfl))) (mvT hZ (hw _ (List.mem_of_getElem? (i := 66) rfl))) (by decide) (backOf (W := 2) (own_rmin l Z a0 hw [] (own_mid ix69) (own_mid ix73) T75.heap n0) hZ (hw _ (List.mem_of_getElem? (i := 66) rfl)) (hw _ (List.mem_of_getElem? (i := 20) rfl)) (by decide) (by decide)) (g := (mkF m 106 #[.val (.long q0), .second, .val (.long q1), .second, .val (.long q2), .second, .val (.double (0 : UInt64)), .second, .val (.double (4602678819172646912 : UInt64)), .second, .val (.double (4607182418800017408 : UInt64)), .second, .val (.ref b1), .val (.ref b10), .val (.long (own_mid ix69)), .second, .val (.long (own_mid ix71)), .second, .val (.long (own_mid ix73)), .second, .val (.long (own_min (own_mid ix69) (own_mid ix71))), .second, .val (.long (own_max (own_mid ix69) (own_mid ix73))), .second, .unset, .unset, .unset] [(.long (own_mid ix73)), (.long (own_mid ix69)), (.long (own_mid ix71))])) rfl (by rw [hml]; rfl) (argsL := [(.long (own_mid ix69)), (.long (own_mid ix73))]) (rest := [(.long (own_mid ix71))]) (lenOf own_pd2 rfl) rfl (by show 2 * 0 + _ ≤ _; exact Nat.le_of_eq rfl) (hb hby at_106) (fun _ _ => ⟨rfl, e87, (by decide : 4 + 0 ≤ _), (by decide : 14596 + 0 ≤ _)⟩)
  dsimp only [Pt.U, Pt.locs, Pt.cells, Pt.slots] at X88 lq88 yq88 zq88 st88 hQ88
  subst lq88 yq88 zq88
  obtain ⟨rfl, N88q, e88⟩ := hQ88
  have N88 := Fr.app N87 N88q
  refine own_by (V := T88.setTop (mkF m 109 #[.val (.long q0), .second, .val (.long q1), .second, .val (.long q2), .second, .val (.double (0 : UInt64)), .second, .val (.double (4602678819172646912 : UInt64)), .second, .val (.double (4607182418800017408 : UInt64)), .second, .val (.ref b1), .val (.ref b10), .val (.long (own_mid ix69)), .second, .val (.long (own_mid ix71)), .second, .val (.long (own_mid ix73)), .second, .val (.long (own_min (own_mid ix69) (own_mid ix71))), .second, .val (.long (own_max (own_mid ix69) (own_mid ix73))), .second, .unset, .unset, .unset] [(.long (own_min (own_mid ix69) (own_mid ix73))), (.long (own_mid ix71))])) st88 ?_
  obtain ⟨_, _, ⟨T89, Lq89, kq89, nq89⟩, -, X89, ⟨Lc89, hQ89, lq89, yq89, zq89⟩, st89⟩ := Jvm.LawKit.callS X88 hx (y := (⟨"java/lang/Math", "max", "(JJ)J"⟩ : MethodName)) hown (mvT hZ (hw _ (List.mem_of_getElem? (i := 67) rfl))) (mvT hZ (hw _ (List.mem_of_getElem? (i := 19) rfl))) (mvT hZ (hw _ (List.mem_of_getElem? (i := 20) rfl))) (mvT hZ (hw _ (List.mem_of_getElem? (i := 21) rfl))) (by decide) (backOf (W := 0) (own_rmax l Z a0 hw [] (own_mid ix71) (own_min (own_mid ix69) (own_mid ix73)) T75.heap n0) hZ (hw _ (List.mem_of_getElem? (i := 21) rfl)) (hw _ (List.mem_of_getElem? (i := 20) rfl)) (by decide) (by decide)) (g := (mkF m 109 #[.val (.long q0), .second, .val (.long q1), .second, .val (.long q2), .second, .val (.double (0 : UInt64)), .second, .val (.double (4602678819172646912 : UInt64)), .second, .val (.double (4607182418800017408 : UInt64)), .second, .val (.ref b1), .val (.ref b10), .val (.long (own_mid ix69)), .second, .val (.long (own_mid ix71)), .second, .val (.long (own_mid ix73)), .second, .val (.long (own_min (own_mid ix69) (own_mid ix71))), .second, .val (.long (own_max (own_mid ix69) (own_mid ix73))), .second, .unset, .unset, .unset] [(.long (own_min (own_mid ix69) (own_mid ix73))), (.long (own_mid ix71))])) rfl (by rw [hml]; rfl) (argsL := [(.long (own_mid ix71)), (.long (own_min (own_mid ix69) (own_mid ix73)))]) (rest := []) (lenOf own_pd2 rfl) rfl (by show 2 * 0 + _ ≤ _; exact Nat.le_of_eq rfl) (hb hby at_109) (fun _ _ => ⟨rfl, e88, (by decide : 4 + 0 ≤ _), (by decide : 14596 + 0 ≤ _)⟩)
  dsimp only [Pt.U, Pt.locs, Pt.cells, Pt.slots] at X89 lq89 yq89 zq89 st89 hQ89
  subst lq89 yq89 zq89
  obtain ⟨rfl, N89q, e89⟩ := hQ89
  have N89 := Fr.app N88 N89q
  refine own_by (V := T89.setTop (mkF m 112 #[.val (.long q0), .second, .val (.long q1), .second, .val (.long q2), .second, .val (.double (0 : UInt64)), .second, .val (.double (4602678819172646912 : UInt64)), .second, .val (.double (4607182418800017408 : UInt64)), .second, .val (.ref b1), .val (.ref b10), .val (.long (own_mid ix69)), .second, .val (.long (own_mid ix71)), .second, .val (.long (own_mid ix73)), .second, .val (.long (own_min (own_mid ix69) (own_mid ix71))), .second, .val (.long (own_max (own_mid ix69) (own_mid ix73))), .second, .unset, .unset, .unset] [(.long (own_max (own_mid ix71) (own_min (own_mid ix69) (own_mid ix73))))])) st89 ?_
  refine own_by (V := T89.setTop (mkF m 114 #[.val (.long q0), .second, .val (.long q1), .second, .val (.long q2), .second, .val (.double (0 : UInt64)), .second, .val (.double (4602678819172646912 : UInt64)), .second, .val (.double (4607182418800017408 : UInt64)), .second, .val (.ref b1), .val (.ref b10), .val (.long (own_mid ix69)), .second, .val (.long (own_mid ix71)), .second, .val (.long (own_mid ix73)), .second, .val (.long (own_min (own_mid ix69) (own_mid ix71))), .second, .val (.long (own_max (own_mid ix69) (own_mid ix73))), .second, .val (.long (own_max (own_mid ix71) (own_min (own_mid ix69) (own_mid ix73)))), .second, .unset] [])) (fun t k => XS.lstore X89.here hx rfl (hb hby at_112) rfl (l' := #[.val (.long q0), .second, .val (.long q1), .second, .val (.long q2), .second, .val (.double (0 : UInt64)), .second, .val (.double (4602678819172646912 : UInt64)), .second, .val (.double (4607182418800017408 : UInt64)), .second, .val (.ref b1), .val (.ref b10), .val (.long (own_mid ix69)), .second, .val (.long (own_mid ix71)), .second, .val (.long (own_mid ix73)), .second, .val (.long (own_min (own_mid ix69) (own_mid ix71))), .second, .val (.long (own_max (own_mid ix69) (own_mid ix73))), .second, .val (.long (own_max (own_mid ix71) (own_min (own_mid ix69) (own_mid ix73)))), .second, .unset]) rfl k) ?_
  refine own_by (V := T89.setTop (mkF m 116 #[.val (.long q0), .second, .val (.long q1), .second, .val (.long q2), .second, .val (.double (0 : UInt64)), .second, .val (.double (4602678819172646912 : UInt64)), .second, .val (.double (4607182418800017408 : UInt64)), .second, .val (.ref b1), .val (.ref b10), .val (.long (own_mid ix69)), .second, .val (.long (own_mid ix71)), .second, .val (.long (own_mid ix73)), .second, .val (.long (own_min (own_mid ix69) (own_mid ix71))), .second, .val (.long (own_max (own_mid ix69) (own_mid ix73))), .second, .val (.long (own_max (own_mid ix71) (own_min (own_mid ix69) (own_mid ix73)))), .second, .unset] [(.ref b1)])) (fun t k => XS.aload X89.here hx rfl (hb hby at_114) rfl rfl k) ?_
  obtain ⟨cq91, kq91, q91a, q91b, q91c⟩ := isOf hZ e89 g75_0
  obtain ⟨_, _, ⟨T90, Lq90, kq90, nq90⟩, -, X90, ⟨Lc90, hQ90, lq90, yq90, zq90⟩, st90⟩ := X89.virtualBack hx (y := (⟨"com/example/nocord/nocord/bench/Latencies", "count", "()J"⟩ : MethodName)) (z := (⟨"com/example/nocord/nocord/bench/Latencies", "count", "()J"⟩ : MethodName)) hown (mvT hZ (hw _ (List.mem_of_getElem? (i := 68) rfl))) (mvT hZ (hw _ (List.mem_of_getElem? (i := 69) rfl))) (notFace_of_selects (args := #[]) (mvT hZ (hw _ (List.mem_of_getElem? (i := 71) rfl)))) (mvT hZ (hw _ (List.mem_of_getElem? (i := 71) rfl))) (mvT hZ (hw _ (List.mem_of_getElem? (i := 70) rfl))) (by decide) (backOf (W := 0) (own_rcnt l Z a0 hw [] b1 (3 : Int64) T75.heap n0 tl85) hZ (hw _ (List.mem_of_getElem? (i := 72) rfl)) (hw _ (List.mem_of_getElem? (i := 3) rfl)) (by decide) (by decide)) q91a q91c (g := (mkF m 116 #[.val (.long q0), .second, .val (.long q1), .second, .val (.long q2), .second, .val (.double (0 : UInt64)), .second, .val (.double (4602678819172646912 : UInt64)), .second, .val (.double (4607182418800017408 : UInt64)), .second, .val (.ref b1), .val (.ref b10), .val (.long (own_mid ix69)), .second, .val (.long (own_mid ix71)), .second, .val (.long (own_mid ix73)), .second, .val (.long (own_min (own_mid ix69) (own_mid ix71))), .second, .val (.long (own_max (own_mid ix69) (own_mid ix73))), .second, .val (.long (own_max (own_mid ix71) (own_min (own_mid ix69) (own_mid ix73)))), .second, .unset] [(.ref b1)])) rfl (by rw [hml]; rfl) (Steps.refl _) (argsL := []) (rest := []) (lenOf own_pd10 rfl) rfl (by show 2 * 0 + _ ≤ _; exact Nat.le_of_eq rfl) (hb hby at_116) (fun _ _ => ⟨rfl, e89, (by decide : 4 + 0 ≤ _), (by decide : 14596 + 0 ≤ _)⟩)
  dsimp only [Pt.U, Pt.locs, Pt.cells, Pt.slots] at X90 lq90 yq90 zq90 st90 hQ90
  subst lq90 yq90 zq90
  obtain ⟨rfl, N90q, e90⟩ := hQ90
  have N90 := Fr.app N89 N90q
  refine own_by (V := T90.setTop (mkF m 119 #[.val (.long q0), .second, .val (.long q1), .second, .val (.long q2), .second, .val (.double (0 : UInt64)), .second, .val (.double (4602678819172646912 : UInt64)), .second, .val (.double (4607182418800017408 : UInt64)), .second, .val (.ref b1), .val (.ref b10), .val (.long (own_mid ix69)), .second, .val (.long (own_mid ix71)), .second, .val (.long (own_mid ix73)), .second, .val (.long (own_min (own_mid ix69) (own_mid ix71))), .second, .val (.long (own_max (own_mid ix69) (own_mid ix73))), .second, .val (.long (own_max (own_mid ix71) (own_min (own_mid ix69) (own_mid ix73)))), .second, .unset] [(.long (3 : Int64))])) (fun t k => st90.trans k) ?_
  refine own_by (V := T90.setTop (mkF m 122 #[.val (.long q0), .second, .val (.long q1), .second, .val (.long q2), .second, .val (.double (0 : UInt64)), .second, .val (.double (4602678819172646912 : UInt64)), .second, .val (.double (4607182418800017408 : UInt64)), .second, .val (.ref b1), .val (.ref b10), .val (.long (own_mid ix69)), .second, .val (.long (own_mid ix71)), .second, .val (.long (own_mid ix73)), .second, .val (.long (own_min (own_mid ix69) (own_mid ix71))), .second, .val (.long (own_max (own_mid ix69) (own_mid ix73))), .second, .val (.long (own_max (own_mid ix71) (own_min (own_mid ix69) (own_mid ix73)))), .second, .unset] [(.long (3 : Int64)), (.long (3 : Int64))])) (Jvm.Stand.ldc2Long X90 hx hown (mvT hZ (hw _ (List.mem_of_getElem? (i := 73) rfl))) (g := (mkF m 119 #[.val (.long q0), .second, .val (.long q1), .second, .val (.long q2), .second, .val (.double (0 : UInt64)), .second, .val (.double (4602678819172646912 : UInt64)), .second, .val (.double (4607182418800017408 : UInt64)), .second, .val (.ref b1), .val (.ref b10), .val (.long (own_mid ix69)), .second, .val (.long (own_mid ix71)), .second, .val (.long (own_mid ix73)), .second, .val (.long (own_min (own_mid ix69) (own_mid ix71))), .second, .val (.long (own_max (own_mid ix69) (own_mid ix73))), .second, .val (.long (own_max (own_mid ix71) (own_min (own_mid ix69) (own_mid ix73)))), .second, .unset] [(.long (3 : Int64))])) rfl (hb hby at_119)) ?_
  refine own_by (V := T90.setTop (mkF m 123 #[.val (.long q0), .second, .val (.long q1), .second, .val (.long q2), .second, .val (.double (0 : UInt64)), .second, .val (.double (4602678819172646912 : UInt64)), .second, .val (.double (4607182418800017408 : UInt64)), .second, .val (.ref b1), .val (.ref b10), .val (.long (own_mid ix69)), .second, .val (.long (own_mid ix71)), .second, .val (.long (own_mid ix73)), .second, .val (.long (own_min (own_mid ix69) (own_mid ix71))), .second, .val (.long (own_max (own_mid ix69) (own_mid ix73))), .second, .val (.long (own_max (own_mid ix71) (own_min (own_mid ix69) (own_mid ix73)))), .second, .unset] [(.int (lcmpW (3 : Int64) (3 : Int64)))])) (fun t k => XS.lcmp X90.here hx rfl (hb hby at_122) rfl k) ?_
  have hb123_92 : ((lcmpW (3 : Int64) (3 : Int64)) = (0 : Int32)) := by decide
  refine own_by (V := T90.setTop (mkF m 126 #[.val (.long q0), .second, .val (.long q1), .second, .val (.long q2), .second, .val (.double (0 : UInt64)), .second, .val (.double (4602678819172646912 : UInt64)), .second, .val (.double (4607182418800017408 : UInt64)), .second, .val (.ref b1), .val (.ref b10), .val (.long (own_mid ix69)), .second, .val (.long (own_mid ix71)), .second, .val (.long (own_mid ix73)), .second, .val (.long (own_min (own_mid ix69) (own_mid ix71))), .second, .val (.long (own_max (own_mid ix69) (own_mid ix73))), .second, .val (.long (own_max (own_mid ix71) (own_min (own_mid ix69) (own_mid ix73)))), .second, .unset] [])) (fun t k => XS.ifNo X90.here hx rfl (hb hby at_123) rfl ((if0 _ _).trans (teq hb123_92).2) k) ?_
  refine own_by (V := T90.setTop (mkF m 127 #[.val (.long q0), .second, .val (.long q1), .second, .val (.long q2), .second, .val (.double (0 : UInt64)), .second, .val (.double (4602678819172646912 : UInt64)), .second, .val (.double (4607182418800017408 : UInt64)), .second, .val (.ref b1), .val (.ref b10), .val (.long (own_mid ix69)), .second, .val (.long (own_mid ix71)), .second, .val (.long (own_mid ix73)), .second, .val (.long (own_min (own_mid ix69) (own_mid ix71))), .second, .val (.long (own_max (own_mid ix69) (own_mid ix73))), .second, .val (.long (own_max (own_mid ix71) (own_min (own_mid ix69) (own_mid ix73)))), .second, .unset] [(.int (1 : Int32))])) (fun t k => XS.iconst X90.here hx rfl (hb hby at_126) k) ?_
  refine own_by (V := T90.setTop (mkF m 131 #[.val (.long q0), .second, .val (.long q1), .second, .val (.long q2), .second, .val (.double (0 : UInt64)), .second, .val (.double (4602678819172646912 : UInt64)), .second, .val (.double (4607182418800017408 : UInt64)), .second, .val (.ref b1), .val (.ref b10), .val (.long (own_mid ix69)), .second, .val (.long (own_mid ix71)), .second, .val (.long (own_mid ix73)), .second, .val (.long (own_min (own_mid ix69) (own_mid ix71))), .second, .val (.long (own_max (own_mid ix69) (own_mid ix73))), .second, .val (.long (own_max (own_mid ix71) (own_min (own_mid ix69) (own_mid ix73)))), .second, .unset] [(.int (1 : Int32))])) (fun t k => XS.goto X90.here hx rfl (pc0 := 127) (pc' := 131) rfl (hb hby at_127) (by decide) (by decide) k) ?_
  refine own_by (V := T90.setTop (mkF m 133 #[.val (.long q0), .second, .val (.long q1), .second, .val (.long q2), .second, .val (.double (0 : UInt64)), .second, .val (.double (4602678819172646912 : UInt64)), .second, .val (.double (4607182418800017408 : UInt64)), .second, .val (.ref b1), .val (.ref b10), .val (.long (own_mid ix69)), .second, .val (.long (own_mid ix71)), .second, .val (.long (own_mid ix73)), .second, .val (.long (own_min (own_mid ix69) (own_mid ix71))), .second, .val (.long (own_max (own_mid ix69) (own_mid ix73))), .second, .val (.long (own_max (own_mid ix71) (own_min (own_mid ix69) (own_mid ix73)))), .second, .val (.int (1 : Int32))] [])) (fun t k => XS.istore X90.here hx rfl (hb hby at_131) rfl (l' := #[.val (.long q0), .second, .val (.long q1), .second, .val (.long q2), .second, .val (.double (0 : UInt64)), .second, .val (.double (4602678819172646912 : UInt64)), .second, .val (.double (4607182418800017408 : UInt64)), .second, .val (.ref b1), .val (.ref b10), .val (.long (own_mid ix69)), .second, .val (.long (own_mid ix71)), .second, .val (.long (own_mid ix73)), .second, .val (.long (own_min (own_mid ix69) (own_mid ix71))), .second, .val (.long (own_max (own_mid ix69) (own_mid ix73))), .second, .val (.long (own_max (own_mid ix71) (own_min (own_mid ix69) (own_mid ix73)))), .second, .val (.int (1 : Int32))]) rfl k) ?_
  refine own_by (V := T90.setTop (mkF m 135 #[.val (.long q0), .second, .val (.long q1), .second, .val (.long q2), .second, .val (.double (0 : UInt64)), .second, .val (.double (4602678819172646912 : UInt64)), .second, .val (.double (4607182418800017408 : UInt64)), .second, .val (.ref b1), .val (.ref b10), .val (.long (own_mid ix69)), .second, .val (.long (own_mid ix71)), .second, .val (.long (own_mid ix73)), .second, .val (.long (own_min (own_mid ix69) (own_mid ix71))), .second, .val (.long (own_max (own_mid ix69) (own_mid ix73))), .second, .val (.long (own_max (own_mid ix71) (own_min (own_mid ix69) (own_mid ix73)))), .second, .val (.int (1 : Int32))] [(.int (1 : Int32))])) (fun t k => XS.iload X90.here hx rfl (hb hby at_133) rfl  k) ?_
  have hb135_93 : ¬ ((1 : Int32) = (0 : Int32)) := by decide
  refine own_by (V := T90.setTop (mkF m 138 #[.val (.long q0), .second, .val (.long q1), .second, .val (.long q2), .second, .val (.double (0 : UInt64)), .second, .val (.double (4602678819172646912 : UInt64)), .second, .val (.double (4607182418800017408 : UInt64)), .second, .val (.ref b1), .val (.ref b10), .val (.long (own_mid ix69)), .second, .val (.long (own_mid ix71)), .second, .val (.long (own_mid ix73)), .second, .val (.long (own_min (own_mid ix69) (own_mid ix71))), .second, .val (.long (own_max (own_mid ix69) (own_mid ix73))), .second, .val (.long (own_max (own_mid ix71) (own_min (own_mid ix69) (own_mid ix73)))), .second, .val (.int (1 : Int32))] [])) (fun t k => XS.ifNo X90.here hx rfl (hb hby at_135) rfl ((if0 _ _).trans (feq hb135_93).1) k) ?_
  refine own_by (V := T90.setTop (mkF m 140 #[.val (.long q0), .second, .val (.long q1), .second, .val (.long q2), .second, .val (.double (0 : UInt64)), .second, .val (.double (4602678819172646912 : UInt64)), .second, .val (.double (4607182418800017408 : UInt64)), .second, .val (.ref b1), .val (.ref b10), .val (.long (own_mid ix69)), .second, .val (.long (own_mid ix71)), .second, .val (.long (own_mid ix73)), .second, .val (.long (own_min (own_mid ix69) (own_mid ix71))), .second, .val (.long (own_max (own_mid ix69) (own_mid ix73))), .second, .val (.long (own_max (own_mid ix71) (own_min (own_mid ix69) (own_mid ix73)))), .second, .val (.int (1 : Int32))] [(.ref b1)])) (fun t k => XS.aload X90.here hx rfl (hb hby at_138) rfl rfl k) ?_
  refine own_by (V := T90.setTop (mkF m 142 #[.val (.long q0), .second, .val (.long q1), .second, .val (.long q2), .second, .val (.double (0 : UInt64)), .second, .val (.double (4602678819172646912 : UInt64)), .second, .val (.double (4607182418800017408 : UInt64)), .second, .val (.ref b1), .val (.ref b10), .val (.long (own_mid ix69)), .second, .val (.long (own_mid ix71)), .second, .val (.long (own_mid ix73)), .second, .val (.long (own_min (own_mid ix69) (own_mid ix71))), .second, .val (.long (own_max (own_mid ix69) (own_mid ix73))), .second, .val (.long (own_max (own_mid ix71) (own_min (own_mid ix69) (own_mid ix73)))), .second, .val (.int (1 : Int32))] [(.double (0 : UInt64)), (.ref b1)])) (fun t k => XS.dload X90.here hx rfl (hb hby at_140) rfl  k) ?_
  obtain ⟨cq95, kq95, q95a, q95b, q95c⟩ := isOf hZ e90 g75_0
  obtain ⟨_, _, ⟨T94, Lq94, kq94, nq94⟩, -, X94, ⟨Lc94, hQ94, lq94, yq94, zq94⟩, st94⟩ := X90.virtualBack hx (y := (⟨"com/example/nocord/nocord/bench/Latencies", "percentile", "(D)J"⟩ : MethodName)) (z := (⟨"com/example/nocord/nocord/bench/Latencies", "percentile", "(D)J"⟩ : MethodName)) hown (mvT hZ (hw _ (List.mem_of_getElem? (i := 28) rfl))) (mvT hZ (hw _ (List.mem_of_getElem? (i := 29) rfl))) (notFace_of_selects (args := #[]) (mvT hZ (hw _ (List.mem_of_getElem? (i := 31) rfl)))) (mvT hZ (hw _ (List.mem_of_getElem? (i := 31) rfl))) (mvT hZ (hw _ (List.mem_of_getElem? (i := 30) rfl))) (by decide) (backOf (W := 0) (own_rpct_0_3 l Z a0 hw [] b1 b5 kb5 (own_addf (own_inc (fun _ => (0 : Int64)) kk36) (own_inc (own_inc (fun _ => (0 : Int64)) kk47) kk58) 7296) T75.heap n0 Zs75 g75_1 tl85 g75_3 (own_small_of (own_leC kk36 kk47 kk58) (by decide)) (own_totC g36_4 g47_4 g58_4) (SA.ext O75.2)) hZ (hw _ (List.mem_of_getElem? (i := 32) rfl)) (hw _ (List.mem_of_getElem? (i := 3) rfl)) (by decide) (by decide)) q95a q95c (g := (mkF m 142 #[.val (.long q0), .second, .val (.long q1), .second, .val (.long q2), .second, .val (.double (0 : UInt64)), .second, .val (.double (4602678819172646912 : UInt64)), .second, .val (.double (4607182418800017408 : UInt64)), .second, .val (.ref b1), .val (.ref b10), .val (.long (own_mid ix69)), .second, .val (.long (own_mid ix71)), .second, .val (.long (own_mid ix73)), .second, .val (.long (own_min (own_mid ix69) (own_mid ix71))), .second, .val (.long (own_max (own_mid ix69) (own_mid ix73))), .second, .val (.long (own_max (own_mid ix71) (own_min (own_mid ix69) (own_mid ix73)))), .second, .val (.int (1 : Int32))] [(.double (0 : UInt64)), (.ref b1)])) rfl (by rw [hml]; rfl) (Steps.refl _) (argsL := [(.double (0 : UInt64))]) (rest := []) (lenOf own_pd8 rfl) rfl (by show 2 * 0 + _ ≤ _; exact Nat.le_of_eq rfl) (hb hby at_142) (fun _ _ => ⟨rfl, e90, (by decide : 4 + 0 ≤ _), (by decide : 14596 + 0 ≤ _)⟩)
  dsimp only [Pt.U, Pt.locs, Pt.cells, Pt.slots] at X94 lq94 yq94 zq94 st94 hQ94
  subst lq94 yq94 zq94
  obtain ⟨ix94, rfl, N94q, e94, g94_0⟩ := hQ94
  have N94 := Fr.app N90 N94q
  refine own_by (V := T94.setTop (mkF m 145 #[.val (.long q0), .second, .val (.long q1), .second, .val (.long q2), .second, .val (.double (0 : UInt64)), .second, .val (.double (4602678819172646912 : UInt64)), .second, .val (.double (4607182418800017408 : UInt64)), .second, .val (.ref b1), .val (.ref b10), .val (.long (own_mid ix69)), .second, .val (.long (own_mid ix71)), .second, .val (.long (own_mid ix73)), .second, .val (.long (own_min (own_mid ix69) (own_mid ix71))), .second, .val (.long (own_max (own_mid ix69) (own_mid ix73))), .second, .val (.long (own_max (own_mid ix71) (own_min (own_mid ix69) (own_mid ix73)))), .second, .val (.int (1 : Int32))] [(.long (own_mid ix94))])) (fun t k => st94.trans k) ?_
  refine own_by (V := T94.setTop (mkF m 147 #[.val (.long q0), .second, .val (.long q1), .second, .val (.long q2), .second, .val (.double (0 : UInt64)), .second, .val (.double (4602678819172646912 : UInt64)), .second, .val (.double (4607182418800017408 : UInt64)), .second, .val (.ref b1), .val (.ref b10), .val (.long (own_mid ix69)), .second, .val (.long (own_mid ix71)), .second, .val (.long (own_mid ix73)), .second, .val (.long (own_min (own_mid ix69) (own_mid ix71))), .second, .val (.long (own_max (own_mid ix69) (own_mid ix73))), .second, .val (.long (own_max (own_mid ix71) (own_min (own_mid ix69) (own_mid ix73)))), .second, .val (.int (1 : Int32))] [(.long (own_min (own_mid ix69) (own_mid ix71))), (.long (own_mid ix94))])) (fun t k => XS.lload X94.here hx rfl (hb hby at_145) rfl  k) ?_
  refine own_by (V := T94.setTop (mkF m 148 #[.val (.long q0), .second, .val (.long q1), .second, .val (.long q2), .second, .val (.double (0 : UInt64)), .second, .val (.double (4602678819172646912 : UInt64)), .second, .val (.double (4607182418800017408 : UInt64)), .second, .val (.ref b1), .val (.ref b10), .val (.long (own_mid ix69)), .second, .val (.long (own_mid ix71)), .second, .val (.long (own_mid ix73)), .second, .val (.long (own_min (own_mid ix69) (own_mid ix71))), .second, .val (.long (own_max (own_mid ix69) (own_mid ix73))), .second, .val (.long (own_max (own_mid ix71) (own_min (own_mid ix69) (own_mid ix73)))), .second, .val (.int (1 : Int32))] [(.int (lcmpW (own_mid ix94) (own_min (own_mid ix69) (own_mid ix71))))])) (fun t k => XS.lcmp X94.here hx rfl (hb hby at_147) rfl k) ?_
  have hb148_96 : ((lcmpW (own_mid ix94) (own_min (own_mid ix69) (own_mid ix71))) = (0 : Int32)) := own_lcs _ _ (own_L1 g69_0 g71_0 g94_0)
  refine own_by (V := T94.setTop (mkF m 151 #[.val (.long q0), .second, .val (.long q1), .second, .val (.long q2), .second, .val (.double (0 : UInt64)), .second, .val (.double (4602678819172646912 : UInt64)), .second, .val (.double (4607182418800017408 : UInt64)), .second, .val (.ref b1), .val (.ref b10), .val (.long (own_mid ix69)), .second, .val (.long (own_mid ix71)), .second, .val (.long (own_mid ix73)), .second, .val (.long (own_min (own_mid ix69) (own_mid ix71))), .second, .val (.long (own_max (own_mid ix69) (own_mid ix73))), .second, .val (.long (own_max (own_mid ix71) (own_min (own_mid ix69) (own_mid ix73)))), .second, .val (.int (1 : Int32))] [])) (fun t k => XS.ifNo X94.here hx rfl (hb hby at_148) rfl ((if0 _ _).trans (teq hb148_96).2) k) ?_
  refine own_by (V := T94.setTop (mkF m 152 #[.val (.long q0), .second, .val (.long q1), .second, .val (.long q2), .second, .val (.double (0 : UInt64)), .second, .val (.double (4602678819172646912 : UInt64)), .second, .val (.double (4607182418800017408 : UInt64)), .second, .val (.ref b1), .val (.ref b10), .val (.long (own_mid ix69)), .second, .val (.long (own_mid ix71)), .second, .val (.long (own_mid ix73)), .second, .val (.long (own_min (own_mid ix69) (own_mid ix71))), .second, .val (.long (own_max (own_mid ix69) (own_mid ix73))), .second, .val (.long (own_max (own_mid ix71) (own_min (own_mid ix69) (own_mid ix73)))), .second, .val (.int (1 : Int32))] [(.int (1 : Int32))])) (fun t k => XS.iconst X94.here hx rfl (hb hby at_151) k) ?_
  refine own_by (V := T94.setTop (mkF m 156 #[.val (.long q0), .second, .val (.long q1), .second, .val (.long q2), .second, .val (.double (0 : UInt64)), .second, .val (.double (4602678819172646912 : UInt64)), .second, .val (.double (4607182418800017408 : UInt64)), .second, .val (.ref b1), .val (.ref b10), .val (.long (own_mid ix69)), .second, .val (.long (own_mid ix71)), .second, .val (.long (own_mid ix73)), .second, .val (.long (own_min (own_mid ix69) (own_mid ix71))), .second, .val (.long (own_max (own_mid ix69) (own_mid ix73))), .second, .val (.long (own_max (own_mid ix71) (own_min (own_mid ix69) (own_mid ix73)))), .second, .val (.int (1 : Int32))] [(.int (1 : Int32))])) (fun t k => XS.goto X94.here hx rfl (pc0 := 152) (pc' := 156) rfl (hb hby at_152) (by decide) (by decide) k) ?_
  refine own_by (V := T94.setTop (mkF m 158 #[.val (.long q0), .second, .val (.long q1), .second, .val (.long q2), .second, .val (.double (0 : UInt64)), .second, .val (.double (4602678819172646912 : UInt64)), .second, .val (.double (4607182418800017408 : UInt64)), .second, .val (.ref b1), .val (.ref b10), .val (.long (own_mid ix69)), .second, .val (.long (own_mid ix71)), .second, .val (.long (own_mid ix73)), .second, .val (.long (own_min (own_mid ix69) (own_mid ix71))), .second, .val (.long (own_max (own_mid ix69) (own_mid ix73))), .second, .val (.long (own_max (own_mid ix71) (own_min (own_mid ix69) (own_mid ix73)))), .second, .val (.int (1 : Int32))] [])) (fun t k => XS.istore X94.here hx rfl (hb hby at_156) rfl (l' := #[.val (.long q0), .second, .val (.long q1), .second, .val (.long q2), .second, .val (.double (0 : UInt64)), .second, .val (.double (4602678819172646912 : UInt64)), .second, .val (.double (4607182418800017408 : UInt64)), .second, .val (.ref b1), .val (.ref b10), .val (.long (own_mid ix69)), .second, .val (.long (own_mid ix71)), .second, .val (.long (own_mid ix73)), .second, .val (.long (own_min (own_mid ix69) (own_mid ix71))), .second, .val (.long (own_max (own_mid ix69) (own_mid ix73))), .second, .val (.long (own_max (own_mid ix71) (own_min (own_mid ix69) (own_mid ix73)))), .second, .val (.int (1 : Int32))]) rfl k) ?_
  refine own_by (V := T94.setTop (mkF m 160 #[.val (.long q0), .second, .val (.long q1), .second, .val (.long q2), .second, .val (.double (0 : UInt64)), .second, .val (.double (4602678819172646912 : UInt64)), .second, .val (.double (4607182418800017408 : UInt64)), .second, .val (.ref b1), .val (.ref b10), .val (.long (own_mid ix69)), .second, .val (.long (own_mid ix71)), .second, .val (.long (own_mid ix73)), .second, .val (.long (own_min (own_mid ix69) (own_mid ix71))), .second, .val (.long (own_max (own_mid ix69) (own_mid ix73))), .second, .val (.long (own_max (own_mid ix71) (own_min (own_mid ix69) (own_mid ix73)))), .second, .val (.int (1 : Int32))] [(.int (1 : Int32))])) (fun t k => XS.iload X94.here hx rfl (hb hby at_158) rfl  k) ?_
  have hb160_97 : ¬ ((1 : Int32) = (0 : Int32)) := by decide
  refine own_by (V := T94.setTop (mkF m 163 #[.val (.long q0), .second, .val (.long q1), .second, .val (.long q2), .second, .val (.double (0 : UInt64)), .second, .val (.double (4602678819172646912 : UInt64)), .second, .val (.double (4607182418800017408 : UInt64)), .second, .val (.ref b1), .val (.ref b10), .val (.long (own_mid ix69)), .second, .val (.long (own_mid ix71)), .second, .val (.long (own_mid ix73)), .second, .val (.long (own_min (own_mid ix69) (own_mid ix71))), .second, .val (.long (own_max (own_mid ix69) (own_mid ix73))), .second, .val (.long (own_max (own_mid ix71) (own_min (own_mid ix69) (own_mid ix73)))), .second, .val (.int (1 : Int32))] [])) (fun t k => XS.ifNo X94.here hx rfl (hb hby at_160) rfl ((if0 _ _).trans (feq hb160_97).1) k) ?_
  refine own_by (V := T94.setTop (mkF m 165 #[.val (.long q0), .second, .val (.long q1), .second, .val (.long q2), .second, .val (.double (0 : UInt64)), .second, .val (.double (4602678819172646912 : UInt64)), .second, .val (.double (4607182418800017408 : UInt64)), .second, .val (.ref b1), .val (.ref b10), .val (.long (own_mid ix69)), .second, .val (.long (own_mid ix71)), .second, .val (.long (own_mid ix73)), .second, .val (.long (own_min (own_mid ix69) (own_mid ix71))), .second, .val (.long (own_max (own_mid ix69) (own_mid ix73))), .second, .val (.long (own_max (own_mid ix71) (own_min (own_mid ix69) (own_mid ix73)))), .second, .val (.int (1 : Int32))] [(.ref b1)])) (fun t k => XS.aload X94.here hx rfl (hb hby at_163) rfl rfl k) ?_
  refine own_by (V := T94.setTop (mkF m 167 #[.val (.long q0), .second, .val (.long q1), .second, .val (.long q2), .second, .val (.double (0 : UInt64)), .second, .val (.double (4602678819172646912 : UInt64)), .second, .val (.double (4607182418800017408 : UInt64)), .second, .val (.ref b1), .val (.ref b10), .val (.long (own_mid ix69)), .second, .val (.long (own_mid ix71)), .second, .val (.long (own_mid ix73)), .second, .val (.long (own_min (own_mid ix69) (own_mid ix71))), .second, .val (.long (own_max (own_mid ix69) (own_mid ix73))), .second, .val (.long (own_max (own_mid ix71) (own_min (own_mid ix69) (own_mid ix73)))), .second, .val (.int (1 : Int32))] [(.double (4602678819172646912 : UInt64)), (.ref b1)])) (fun t k => XS.dload X94.here hx rfl (hb hby at_165) rfl  k) ?_
  obtain ⟨cq99, kq99, q99a, q99b, q99c⟩ := isOf hZ e94 g75_0
  obtain ⟨_, _, ⟨T98, Lq98, kq98, nq98⟩, -, X98, ⟨Lc98, hQ98, lq98, yq98, zq98⟩, st98⟩ := X94.virtualBack hx (y := (⟨"com/example/nocord/nocord/bench/Latencies", "percentile", "(D)J"⟩ : MethodName)) (z := (⟨"com/example/nocord/nocord/bench/Latencies", "percentile", "(D)J"⟩ : MethodName)) hown (mvT hZ (hw _ (List.mem_of_getElem? (i := 28) rfl))) (mvT hZ (hw _ (List.mem_of_getElem? (i := 29) rfl))) (notFace_of_selects (args := #[]) (mvT hZ (hw _ (List.mem_of_getElem? (i := 31) rfl)))) (mvT hZ (hw _ (List.mem_of_getElem? (i := 31) rfl))) (mvT hZ (hw _ (List.mem_of_getElem? (i := 30) rfl))) (by decide) (backOf (W := 0) (own_rpct_1_3 l Z a0 hw [] b1 b5 kb5 (own_addf (own_inc (fun _ => (0 : Int64)) kk36) (own_inc (own_inc (fun _ => (0 : Int64)) kk47) kk58) 7296) T75.heap n0 Zs75 g75_1 tl85 g75_3 (own_small_of (own_leC kk36 kk47 kk58) (by decide)) (own_totC g36_4 g47_4 g58_4) (SA.ext O75.2)) hZ (hw _ (List.mem_of_getElem? (i := 32) rfl)) (hw _ (List.mem_of_getElem? (i := 3) rfl)) (by decide) (by decide)) q99a q99c (g := (mkF m 167 #[.val (.long q0), .second, .val (.long q1), .second, .val (.long q2), .second, .val (.double (0 : UInt64)), .second, .val (.double (4602678819172646912 : UInt64)), .second, .val (.double (4607182418800017408 : UInt64)), .second, .val (.ref b1), .val (.ref b10), .val (.long (own_mid ix69)), .second, .val (.long (own_mid ix71)), .second, .val (.long (own_mid ix73)), .second, .val (.long (own_min (own_mid ix69) (own_mid ix71))), .second, .val (.long (own_max (own_mid ix69) (own_mid ix73))), .second, .val (.long (own_max (own_mid ix71) (own_min (own_mid ix69) (own_mid ix73)))), .second, .val (.int (1 : Int32))] [(.double (4602678819172646912 : UInt64)), (.ref b1)])) rfl (by rw [hml]; rfl) (Steps.refl _) (argsL := [(.double (4602678819172646912 : UInt64))]) (rest := []) (lenOf own_pd8 rfl) rfl (by show 2 * 0 + _ ≤ _; exact Nat.le_of_eq rfl) (hb hby at_167) (fun _ _ => ⟨rfl, e94, (by decide : 4 + 0 ≤ _), (by decide : 14596 + 0 ≤ _)⟩)
  dsimp only [Pt.U, Pt.locs, Pt.cells, Pt.slots] at X98 lq98 yq98 zq98 st98 hQ98
  subst lq98 yq98 zq98
  obtain ⟨ix98, rfl, N98q, e98, g98_0⟩ := hQ98
  have N98 := Fr.app N94 N98q
  refine own_by (V := T98.setTop (mkF m 170 #[.val (.long q0), .second, .val (.long q1), .second, .val (.long q2), .second, .val (.double (0 : UInt64)), .second, .val (.double (4602678819172646912 : UInt64)), .second, .val (.double (4607182418800017408 : UInt64)), .second, .val (.ref b1), .val (.ref b10), .val (.long (own_mid ix69)), .second, .val (.long (own_mid ix71)), .second, .val (.long (own_mid ix73)), .second, .val (.long (own_min (own_mid ix69) (own_mid ix71))), .second, .val (.long (own_max (own_mid ix69) (own_mid ix73))), .second, .val (.long (own_max (own_mid ix71) (own_min (own_mid ix69) (own_mid ix73)))), .second, .val (.int (1 : Int32))] [(.long (own_mid ix98))])) (fun t k => st98.trans k) ?_
  refine own_by (V := T98.setTop (mkF m 172 #[.val (.long q0), .second, .val (.long q1), .second, .val (.long q2), .second, .val (.double (0 : UInt64)), .second, .val (.double (4602678819172646912 : UInt64)), .second, .val (.double (4607182418800017408 : UInt64)), .second, .val (.ref b1), .val (.ref b10), .val (.long (own_mid ix69)), .second, .val (.long (own_mid ix71)), .second, .val (.long (own_mid ix73)), .second, .val (.long (own_min (own_mid ix69) (own_mid ix71))), .second, .val (.long (own_max (own_mid ix69) (own_mid ix73))), .second, .val (.long (own_max (own_mid ix71) (own_min (own_mid ix69) (own_mid ix73)))), .second, .val (.int (1 : Int32))] [(.long (own_max (own_mid ix71) (own_min (own_mid ix69) (own_mid ix73)))), (.long (own_mid ix98))])) (fun t k => XS.lload X98.here hx rfl (hb hby at_170) rfl  k) ?_
  refine own_by (V := T98.setTop (mkF m 173 #[.val (.long q0), .second, .val (.long q1), .second, .val (.long q2), .second, .val (.double (0 : UInt64)), .second, .val (.double (4602678819172646912 : UInt64)), .second, .val (.double (4607182418800017408 : UInt64)), .second, .val (.ref b1), .val (.ref b10), .val (.long (own_mid ix69)), .second, .val (.long (own_mid ix71)), .second, .val (.long (own_mid ix73)), .second, .val (.long (own_min (own_mid ix69) (own_mid ix71))), .second, .val (.long (own_max (own_mid ix69) (own_mid ix73))), .second, .val (.long (own_max (own_mid ix71) (own_min (own_mid ix69) (own_mid ix73)))), .second, .val (.int (1 : Int32))] [(.int (lcmpW (own_mid ix98) (own_max (own_mid ix71) (own_min (own_mid ix69) (own_mid ix73)))))])) (fun t k => XS.lcmp X98.here hx rfl (hb hby at_172) rfl k) ?_
  have hb173_100 : ((lcmpW (own_mid ix98) (own_max (own_mid ix71) (own_min (own_mid ix69) (own_mid ix73)))) = (0 : Int32)) := own_lcs _ _ (own_L2 g69_0 g71_0 g73_0 g98_0)
  refine own_by (V := T98.setTop (mkF m 176 #[.val (.long q0), .second, .val (.long q1), .second, .val (.long q2), .second, .val (.double (0 : UInt64)), .second, .val (.double (4602678819172646912 : UInt64)), .second, .val (.double (4607182418800017408 : UInt64)), .second, .val (.ref b1), .val (.ref b10), .val (.long (own_mid ix69)), .second, .val (.long (own_mid ix71)), .second, .val (.long (own_mid ix73)), .second, .val (.long (own_min (own_mid ix69) (own_mid ix71))), .second, .val (.long (own_max (own_mid ix69) (own_mid ix73))), .second, .val (.long (own_max (own_mid ix71) (own_min (own_mid ix69) (own_mid ix73)))), .second, .val (.int (1 : Int32))] [])) (fun t k => XS.ifNo X98.here hx rfl (hb hby at_173) rfl ((if0 _ _).trans (teq hb173_100).2) k) ?_
  refine own_by (V := T98.setTop (mkF m 177 #[.val (.long q0), .second, .val (.long q1), .second, .val (.long q2), .second, .val (.double (0 : UInt64)), .second, .val (.double (4602678819172646912 : UInt64)), .second, .val (.double (4607182418800017408 : UInt64)), .second, .val (.ref b1), .val (.ref b10), .val (.long (own_mid ix69)), .second, .val (.long (own_mid ix71)), .second, .val (.long (own_mid ix73)), .second, .val (.long (own_min (own_mid ix69) (own_mid ix71))), .second, .val (.long (own_max (own_mid ix69) (own_mid ix73))), .second, .val (.long (own_max (own_mid ix71) (own_min (own_mid ix69) (own_mid ix73)))), .second, .val (.int (1 : Int32))] [(.int (1 : Int32))])) (fun t k => XS.iconst X98.here hx rfl (hb hby at_176) k) ?_
  refine own_by (V := T98.setTop (mkF m 181 #[.val (.long q0), .second, .val (.long q1), .second, .val (.long q2), .second, .val (.double (0 : UInt64)), .second, .val (.double (4602678819172646912 : UInt64)), .second, .val (.double (4607182418800017408 : UInt64)), .second, .val (.ref b1), .val (.ref b10), .val (.long (own_mid ix69)), .second, .val (.long (own_mid ix71)), .second, .val (.long (own_mid ix73)), .second, .val (.long (own_min (own_mid ix69) (own_mid ix71))), .second, .val (.long (own_max (own_mid ix69) (own_mid ix73))), .second, .val (.long (own_max (own_mid ix71) (own_min (own_mid ix69) (own_mid ix73)))), .second, .val (.int (1 : Int32))] [(.int (1 : Int32))])) (fun t k => XS.goto X98.here hx rfl (pc0 := 177) (pc' := 181) rfl (hb hby at_177) (by decide) (by decide) k) ?_
  refine own_by (V := T98.setTop (mkF m 183 #[.val (.long q0), .second, .val (.long q1), .second, .val (.long q2), .second, .val (.double (0 : UInt64)), .second, .val (.double (4602678819172646912 : UInt64)), .second, .val (.double (4607182418800017408 : UInt64)), .second, .val (.ref b1), .val (.ref b10), .val (.long (own_mid ix69)), .second, .val (.long (own_mid ix71)), .second, .val (.long (own_mid ix73)), .second, .val (.long (own_min (own_mid ix69) (own_mid ix71))), .second, .val (.long (own_max (own_mid ix69) (own_mid ix73))), .second, .val (.long (own_max (own_mid ix71) (own_min (own_mid ix69) (own_mid ix73)))), .second, .val (.int (1 : Int32))] [])) (fun t k => XS.istore X98.here hx rfl (hb hby at_181) rfl (l' := #[.val (.long q0), .second, .val (.long q1), .second, .val (.long q2), .second, .val (.double (0 : UInt64)), .second, .val (.double (4602678819172646912 : UInt64)), .second, .val (.double (4607182418800017408 : UInt64)), .second, .val (.ref b1), .val (.ref b10), .val (.long (own_mid ix69)), .second, .val (.long (own_mid ix71)), .second, .val (.long (own_mid ix73)), .second, .val (.long (own_min (own_mid ix69) (own_mid ix71))), .second, .val (.long (own_max (own_mid ix69) (own_mid ix73))), .second, .val (.long (own_max (own_mid ix71) (own_min (own_mid ix69) (own_mid ix73)))), .second, .val (.int (1 : Int32))]) rfl k) ?_
  refine own_by (V := T98.setTop (mkF m 185 #[.val (.long q0), .second, .val (.long q1), .second, .val (.long q2), .second, .val (.double (0 : UInt64)), .second, .val (.double (4602678819172646912 : UInt64)), .second, .val (.double (4607182418800017408 : UInt64)), .second, .val (.ref b1), .val (.ref b10), .val (.long (own_mid ix69)), .second, .val (.long (own_mid ix71)), .second, .val (.long (own_mid ix73)), .second, .val (.long (own_min (own_mid ix69) (own_mid ix71))), .second, .val (.long (own_max (own_mid ix69) (own_mid ix73))), .second, .val (.long (own_max (own_mid ix71) (own_min (own_mid ix69) (own_mid ix73)))), .second, .val (.int (1 : Int32))] [(.int (1 : Int32))])) (fun t k => XS.iload X98.here hx rfl (hb hby at_183) rfl  k) ?_
  have hb185_101 : ¬ ((1 : Int32) = (0 : Int32)) := by decide
  refine own_by (V := T98.setTop (mkF m 188 #[.val (.long q0), .second, .val (.long q1), .second, .val (.long q2), .second, .val (.double (0 : UInt64)), .second, .val (.double (4602678819172646912 : UInt64)), .second, .val (.double (4607182418800017408 : UInt64)), .second, .val (.ref b1), .val (.ref b10), .val (.long (own_mid ix69)), .second, .val (.long (own_mid ix71)), .second, .val (.long (own_mid ix73)), .second, .val (.long (own_min (own_mid ix69) (own_mid ix71))), .second, .val (.long (own_max (own_mid ix69) (own_mid ix73))), .second, .val (.long (own_max (own_mid ix71) (own_min (own_mid ix69) (own_mid ix73)))), .second, .val (.int (1 : Int32))] [])) (fun t k => XS.ifNo X98.here hx rfl (hb hby at_185) rfl ((if0 _ _).trans (feq hb185_101).1) k) ?_
  refine own_by (V := T98.setTop (mkF m 190 #[.val (.long q0), .second, .val (.long q1), .second, .val (.long q2), .second, .val (.double (0 : UInt64)), .second, .val (.double (4602678819172646912 : UInt64)), .second, .val (.double (4607182418800017408 : UInt64)), .second, .val (.ref b1), .val (.ref b10), .val (.long (own_mid ix69)), .second, .val (.long (own_mid ix71)), .second, .val (.long (own_mid ix73)), .second, .val (.long (own_min (own_mid ix69) (own_mid ix71))), .second, .val (.long (own_max (own_mid ix69) (own_mid ix73))), .second, .val (.long (own_max (own_mid ix71) (own_min (own_mid ix69) (own_mid ix73)))), .second, .val (.int (1 : Int32))] [(.ref b1)])) (fun t k => XS.aload X98.here hx rfl (hb hby at_188) rfl rfl k) ?_
  refine own_by (V := T98.setTop (mkF m 192 #[.val (.long q0), .second, .val (.long q1), .second, .val (.long q2), .second, .val (.double (0 : UInt64)), .second, .val (.double (4602678819172646912 : UInt64)), .second, .val (.double (4607182418800017408 : UInt64)), .second, .val (.ref b1), .val (.ref b10), .val (.long (own_mid ix69)), .second, .val (.long (own_mid ix71)), .second, .val (.long (own_mid ix73)), .second, .val (.long (own_min (own_mid ix69) (own_mid ix71))), .second, .val (.long (own_max (own_mid ix69) (own_mid ix73))), .second, .val (.long (own_max (own_mid ix71) (own_min (own_mid ix69) (own_mid ix73)))), .second, .val (.int (1 : Int32))] [(.double (4607182418800017408 : UInt64)), (.ref b1)])) (fun t k => XS.dload X98.here hx rfl (hb hby at_190) rfl  k) ?_
  obtain ⟨cq103, kq103, q103a, q103b, q103c⟩ := isOf hZ e98 g75_0
  obtain ⟨_, _, ⟨T102, Lq102, kq102, nq102⟩, -, X102, ⟨Lc102, hQ102, lq102, yq102, zq102⟩, st102⟩ := X98.virtualBack hx (y := (⟨"com/example/nocord/nocord/bench/Latencies", "percentile", "(D)J"⟩ : MethodName)) (z := (⟨"com/example/nocord/nocord/bench/Latencies", "percentile", "(D)J"⟩ : MethodName)) hown (mvT hZ (hw _ (List.mem_of_getElem? (i := 28) rfl))) (mvT hZ (hw _ (List.mem_of_getElem? (i := 29) rfl))) (notFace_of_selects (args := #[]) (mvT hZ (hw _ (List.mem_of_getElem? (i := 31) rfl)))) (mvT hZ (hw _ (List.mem_of_getElem? (i := 31) rfl))) (mvT hZ (hw _ (List.mem_of_getElem? (i := 30) rfl))) (by decide) (backOf (W := 0) (own_rpct_2_3 l Z a0 hw [] b1 b5 kb5 (own_addf (own_inc (fun _ => (0 : Int64)) kk36) (own_inc (own_inc (fun _ => (0 : Int64)) kk47) kk58) 7296) T75.heap n0 Zs75 g75_1 tl85 g75_3 (own_small_of (own_leC kk36 kk47 kk58) (by decide)) (own_totC g36_4 g47_4 g58_4) (SA.ext O75.2)) hZ (hw _ (List.mem_of_getElem? (i := 32) rfl)) (hw _ (List.mem_of_getElem? (i := 3) rfl)) (by decide) (by decide)) q103a q103c (g := (mkF m 192 #[.val (.long q0), .second, .val (.long q1), .second, .val (.long q2), .second, .val (.double (0 : UInt64)), .second, .val (.double (4602678819172646912 : UInt64)), .second, .val (.double (4607182418800017408 : UInt64)), .second, .val (.ref b1), .val (.ref b10), .val (.long (own_mid ix69)), .second, .val (.long (own_mid ix71)), .second, .val (.long (own_mid ix73)), .second, .val (.long (own_min (own_mid ix69) (own_mid ix71))), .second, .val (.long (own_max (own_mid ix69) (own_mid ix73))), .second, .val (.long (own_max (own_mid ix71) (own_min (own_mid ix69) (own_mid ix73)))), .second, .val (.int (1 : Int32))] [(.double (4607182418800017408 : UInt64)), (.ref b1)])) rfl (by rw [hml]; rfl) (Steps.refl _) (argsL := [(.double (4607182418800017408 : UInt64))]) (rest := []) (lenOf own_pd8 rfl) rfl (by show 2 * 0 + _ ≤ _; exact Nat.le_of_eq rfl) (hb hby at_192) (fun _ _ => ⟨rfl, e98, (by decide : 4 + 0 ≤ _), (by decide : 14596 + 0 ≤ _)⟩)
  dsimp only [Pt.U, Pt.locs, Pt.cells, Pt.slots] at X102 lq102 yq102 zq102 st102 hQ102
  subst lq102 yq102 zq102
  obtain ⟨ix102, rfl, N102q, e102, g102_0⟩ := hQ102
  have N102 := Fr.app N98 N102q
  refine own_by (V := T102.setTop (mkF m 195 #[.val (.long q0), .second, .val (.long q1), .second, .val (.long q2), .second, .val (.double (0 : UInt64)), .second, .val (.double (4602678819172646912 : UInt64)), .second, .val (.double (4607182418800017408 : UInt64)), .second, .val (.ref b1), .val (.ref b10), .val (.long (own_mid ix69)), .second, .val (.long (own_mid ix71)), .second, .val (.long (own_mid ix73)), .second, .val (.long (own_min (own_mid ix69) (own_mid ix71))), .second, .val (.long (own_max (own_mid ix69) (own_mid ix73))), .second, .val (.long (own_max (own_mid ix71) (own_min (own_mid ix69) (own_mid ix73)))), .second, .val (.int (1 : Int32))] [(.long (own_mid ix102))])) (fun t k => st102.trans k) ?_
  refine own_by (V := T102.setTop (mkF m 197 #[.val (.long q0), .second, .val (.long q1), .second, .val (.long q2), .second, .val (.double (0 : UInt64)), .second, .val (.double (4602678819172646912 : UInt64)), .second, .val (.double (4607182418800017408 : UInt64)), .second, .val (.ref b1), .val (.ref b10), .val (.long (own_mid ix69)), .second, .val (.long (own_mid ix71)), .second, .val (.long (own_mid ix73)), .second, .val (.long (own_min (own_mid ix69) (own_mid ix71))), .second, .val (.long (own_max (own_mid ix69) (own_mid ix73))), .second, .val (.long (own_max (own_mid ix71) (own_min (own_mid ix69) (own_mid ix73)))), .second, .val (.int (1 : Int32))] [(.long (own_max (own_mid ix69) (own_mid ix73))), (.long (own_mid ix102))])) (fun t k => XS.lload X102.here hx rfl (hb hby at_195) rfl  k) ?_
  refine own_by (V := T102.setTop (mkF m 198 #[.val (.long q0), .second, .val (.long q1), .second, .val (.long q2), .second, .val (.double (0 : UInt64)), .second, .val (.double (4602678819172646912 : UInt64)), .second, .val (.double (4607182418800017408 : UInt64)), .second, .val (.ref b1), .val (.ref b10), .val (.long (own_mid ix69)), .second, .val (.long (own_mid ix71)), .second, .val (.long (own_mid ix73)), .second, .val (.long (own_min (own_mid ix69) (own_mid ix71))), .second, .val (.long (own_max (own_mid ix69) (own_mid ix73))), .second, .val (.long (own_max (own_mid ix71) (own_min (own_mid ix69) (own_mid ix73)))), .second, .val (.int (1 : Int32))] [(.int (lcmpW (own_mid ix102) (own_max (own_mid ix69) (own_mid ix73))))])) (fun t k => XS.lcmp X102.here hx rfl (hb hby at_197) rfl k) ?_
  have hb198_104 : ((lcmpW (own_mid ix102) (own_max (own_mid ix69) (own_mid ix73))) = (0 : Int32)) := own_lcs _ _ (own_L3 g69_0 g73_0 g102_0)
  refine own_by (V := T102.setTop (mkF m 201 #[.val (.long q0), .second, .val (.long q1), .second, .val (.long q2), .second, .val (.double (0 : UInt64)), .second, .val (.double (4602678819172646912 : UInt64)), .second, .val (.double (4607182418800017408 : UInt64)), .second, .val (.ref b1), .val (.ref b10), .val (.long (own_mid ix69)), .second, .val (.long (own_mid ix71)), .second, .val (.long (own_mid ix73)), .second, .val (.long (own_min (own_mid ix69) (own_mid ix71))), .second, .val (.long (own_max (own_mid ix69) (own_mid ix73))), .second, .val (.long (own_max (own_mid ix71) (own_min (own_mid ix69) (own_mid ix73)))), .second, .val (.int (1 : Int32))] [])) (fun t k => XS.ifNo X102.here hx rfl (hb hby at_198) rfl ((if0 _ _).trans (teq hb198_104).2) k) ?_
  refine own_by (V := T102.setTop (mkF m 202 #[.val (.long q0), .second, .val (.long q1), .second, .val (.long q2), .second, .val (.double (0 : UInt64)), .second, .val (.double (4602678819172646912 : UInt64)), .second, .val (.double (4607182418800017408 : UInt64)), .second, .val (.ref b1), .val (.ref b10), .val (.long (own_mid ix69)), .second, .val (.long (own_mid ix71)), .second, .val (.long (own_mid ix73)), .second, .val (.long (own_min (own_mid ix69) (own_mid ix71))), .second, .val (.long (own_max (own_mid ix69) (own_mid ix73))), .second, .val (.long (own_max (own_mid ix71) (own_min (own_mid ix69) (own_mid ix73)))), .second, .val (.int (1 : Int32))] [(.int (1 : Int32))])) (fun t k => XS.iconst X102.here hx rfl (hb hby at_201) k) ?_
  refine own_by (V := T102.setTop (mkF m 206 #[.val (.long q0), .second, .val (.long q1), .second, .val (.long q2), .second, .val (.double (0 : UInt64)), .second, .val (.double (4602678819172646912 : UInt64)), .second, .val (.double (4607182418800017408 : UInt64)), .second, .val (.ref b1), .val (.ref b10), .val (.long (own_mid ix69)), .second, .val (.long (own_mid ix71)), .second, .val (.long (own_mid ix73)), .second, .val (.long (own_min (own_mid ix69) (own_mid ix71))), .second, .val (.long (own_max (own_mid ix69) (own_mid ix73))), .second, .val (.long (own_max (own_mid ix71) (own_min (own_mid ix69) (own_mid ix73)))), .second, .val (.int (1 : Int32))] [(.int (1 : Int32))])) (fun t k => XS.goto X102.here hx rfl (pc0 := 202) (pc' := 206) rfl (hb hby at_202) (by decide) (by decide) k) ?_
  refine own_by (V := T102.setTop (mkF m 208 #[.val (.long q0), .second, .val (.long q1), .second, .val (.long q2), .second, .val (.double (0 : UInt64)), .second, .val (.double (4602678819172646912 : UInt64)), .second, .val (.double (4607182418800017408 : UInt64)), .second, .val (.ref b1), .val (.ref b10), .val (.long (own_mid ix69)), .second, .val (.long (own_mid ix71)), .second, .val (.long (own_mid ix73)), .second, .val (.long (own_min (own_mid ix69) (own_mid ix71))), .second, .val (.long (own_max (own_mid ix69) (own_mid ix73))), .second, .val (.long (own_max (own_mid ix71) (own_min (own_mid ix69) (own_mid ix73)))), .second, .val (.int (1 : Int32))] [])) (fun t k => XS.istore X102.here hx rfl (hb hby at_206) rfl (l' := #[.val (.long q0), .second, .val (.long q1), .second, .val (.long q2), .second, .val (.double (0 : UInt64)), .second, .val (.double (4602678819172646912 : UInt64)), .second, .val (.double (4607182418800017408 : UInt64)), .second, .val (.ref b1), .val (.ref b10), .val (.long (own_mid ix69)), .second, .val (.long (own_mid ix71)), .second, .val (.long (own_mid ix73)), .second, .val (.long (own_min (own_mid ix69) (own_mid ix71))), .second, .val (.long (own_max (own_mid ix69) (own_mid ix73))), .second, .val (.long (own_max (own_mid ix71) (own_min (own_mid ix69) (own_mid ix73)))), .second, .val (.int (1 : Int32))]) rfl k) ?_
  refine own_by (V := T102.setTop (mkF m 210 #[.val (.long q0), .second, .val (.long q1), .second, .val (.long q2), .second, .val (.double (0 : UInt64)), .second, .val (.double (4602678819172646912 : UInt64)), .second, .val (.double (4607182418800017408 : UInt64)), .second, .val (.ref b1), .val (.ref b10), .val (.long (own_mid ix69)), .second, .val (.long (own_mid ix71)), .second, .val (.long (own_mid ix73)), .second, .val (.long (own_min (own_mid ix69) (own_mid ix71))), .second, .val (.long (own_max (own_mid ix69) (own_mid ix73))), .second, .val (.long (own_max (own_mid ix71) (own_min (own_mid ix69) (own_mid ix73)))), .second, .val (.int (1 : Int32))] [(.int (1 : Int32))])) (fun t k => XS.iload X102.here hx rfl (hb hby at_208) rfl  k) ?_
  refine own_retN X102 hx hlk e102 Bd.returns (t := .boolean) (by simp) rfl (hb hby at_210) ?_ (by decide) (by decide)
  exact ⟨rfl, N102⟩
set_option maxRecDepth 65536 in
set_option maxHeartbeats 40000000 in
theorem own_comes {Post : Tables → Env → Array Value → State → Outcome → State → Prop} (hpost : ∀ tb e args s v u, (limb_1_1.after args s (.returned v) u = true ∧ limb_1_2.after args s (.returned v) u = true ∧ True) → FrameEnd s (.returned v) u (Jvm.fieldLocs frame_1_writes args s ++ Jvm.arrayLocs frame_1_arrays args s ++ Jvm.staticLocs frame_1_statics s) 16 29312 → Post tb e args s (.returned v) u) :
    ArmFor flags0 classFile x code maxLocals ret World_1 tables_1 room_1 Calls_1 rest_1 Pre_1 Post := by
  intro l hfl _ _ p e ha hc hk s m args below hf hA hF happ hP
  obtain ⟨hcalls, hrest, hpre⟩ := hP
  obtain ⟨-, -, -, hnamed, -, -, -, hat⟩ := (Spec.applies_iff hf).mp happ
  obtain ⟨hg, hn⟩ := and_e (Cond.before_iff.mp (show (Jvm.Cond.and given_1 narrow_1).before args s = true from hpre))
  obtain ⟨hc0, hr0⟩ := and_e hg
  obtain ⟨hv0, hr1⟩ := and_e hr0
  obtain ⟨hv1, hr2⟩ := and_e hr1
  have hv2 := hr2
  obtain ⟨w0, w1, w2, rfl⟩ : ∃ w0 w1 w2 : Value, args = #[w0, w1, w2] := by
    have hs : args.size = 3 := by simpa [Cond.value, given_1] using hc0
    obtain ⟨L⟩ := args
    match L, hs with
    | [w0, w1, w2], _ => exact ⟨w0, w1, w2, rfl⟩
  have hw := fun d (hd : d ∈ tables_1) => atoms_spec (ws := Jvm.Cond.code x code maxLocals ret :: tables_1) hat d (List.mem_cons_of_mem _ hd)
  have hfit : Fit s := fun {y c} hc i hi => by
    obtain ⟨ha, rfl⟩ := Array.getElem?_eq_some_iff.mp hc
    have q := List.all_eq_true.mp ((Array.all_eq_true_iff_forall_mem.mp hF) _ (Array.getElem_mem ha)) i (List.mem_range.mpr hi)
    simpa [Array.getElem?_eq_getElem hi] using q
  obtain ⟨hsets, hown0⟩ := atoms_of _ (rest_1_c_eq ▸ (show rest_1_c.before _ s = true from hrest))
  obtain ⟨i0, ei0⟩ := isL_v hv0
  obtain rfl : w0 = (.long i0) := Option.some.inj ei0
  obtain ⟨i1, ei1⟩ := isL_v hv1
  obtain rfl : w1 = (.long i1) := Option.some.inj ei1
  obtain ⟨i2, ei2⟩ := isL_v hv2
  obtain rfl : w2 = (.long i2) := Option.some.inj ei2
  have evA := eqv_i (Term.int_eval 1) (Cond.before_iff.mp (hsets _ (List.mem_of_getElem? (i := 2) rfl)))
  have SA := Sta.start evA (Or.inl (hsets _ (List.mem_of_getElem? (i := 1) rfl)))
  obtain ⟨n, o, h1, h2, h3, _, L, rfl, ⟨rfl, N⟩, hq⟩ := own_rm0 l s _ hw tables_1 i0 i1 i2  s.heap s.heap.size (Nat.le_refl _) (Old.start s) SA p e ha hc hk s m _ below hf ((Spec.applies_iff_loose hf).mp happ).1 ⟨rfl, State.Warmed39.refl s, rfl⟩ trivial
  refine ⟨n, _, h1, h2, h3, hpost _ _ _ _ _ _ ⟨Cond.after_iff.mpr rfl, Cond.after_iff.mpr (eq_i res_at (Term.int_eval (1)) rfl), trivial⟩ ⟨hq.1, hq.2.1, (hq.2.2.sift fun y hy => Or.inr (N y hy)).mono (by decide) (by decide)⟩⟩
theorem main_1_1 : Claimed_1_1 := own_comes fun _ _ _ _ _ _ h hF => ⟨h.1, hF⟩
theorem main_1_2 : Claimed_1_2 := own_comes fun _ _ _ _ _ _ h hF => ⟨h.2.1, hF⟩

end Jvm.Pilot.@@N@@
namespace Jvm.Pilot.@@N@@
open Jvm Jvm.ClassFile Sem Op Lib Jvm.Free Jvm.Stand Jvm.Pilot.@@N@@.Jvm.D
/-! MADE BY PROGRAM (witnessworld.py) out of the Statement's table words and the real class files: 20 classes; the members and pool entries that the words name. The judged class is class 1, her method 1. -/
namespace start1
open Jvm.ClassFile
def u (s : String) : CpInfo := .utf8 (stringToUtf16 s)
/-- a pool by its gaps: so many unusable entries, then the entry; so many at the end -/
def gap : Nat → List CpInfo → List CpInfo
  | 0, r => r
  | n + 1, r => .unusable :: gap n r
def poolList (es : List (Nat × CpInfo)) (last : Nat) : List CpInfo := es.foldr (fun e r => gap e.1 (e.2 :: r)) (gap last [])
def pool (es : List (Nat × CpInfo)) (last : Nat) : Array CpInfo := ⟨poolList es last⟩
def fileOf (pool : Array CpInfo) (this : Nat) (attrs : Array Attribute := #[]) (ms : Array MethodInfo := #[]) (fl : Nat := 33) (sup : Nat := 0) (ifs : Array Nat := #[]) (fds : Array FieldInfo := #[]) : ClassFile where
  minorVersion := 0
  majorVersion := 65
  constantPool := pool
  accessFlags := fl
  thisClass := this
  superClass := sup
  interfaces := ifs
  fields := fds
  methods := ms
  attributes := attrs
def plain (name : String) (sup : Option ClassId) : Class where
  name := name
  kind := .ordinary
  loader := none
  accessFlags := 33
  super := sup
  interfaces := #[]
  cf := none
  fields := #[]
  methods := #[]
  instanceTypes := #[]
  staticTypes := #[]
  resolved := #[]
  callSites := []
  init := .initialized
  statics := none
  mirror := none

def pool0 : Array CpInfo := pool [(5, u "<init>"), (0, u "()V"), (1, .class_ 10), (1, u "java/lang/Object")] 113

def k0c0 : Code := { maxStack := 0, maxLocals := 1, code := object_method_1_code, exceptionTable := #[], attributes := #[] }
def k0m0 : Method := { name := "<init>", desc := "()V", sig := { parameters := [], returnType := none }, accessFlags := 1, code := some k0c0 }
/-- java/lang/Object -/
def k0 : Class := { plain "java/lang/Object" none with
  accessFlags := 33
  interfaces := #[]
  cf := some (fileOf pool0 8 #[] #[{ accessFlags := 1, nameIndex := 5, descriptorIndex := 6, attributes := #[] }] 33 0 #[] #[])
  fields := #[]
  methods := #[k0m0]
  instanceTypes := #[]
  staticTypes := #[]
  resolved := Array.replicate 124 none
  statics := none }

def pool1 : Array CpInfo := pool [(2, .class_ 4), (0, .nameAndType 5 6), (0, u "java/lang/Object"), (0, u "<init>"), (0, u "()V"), (0, .double 4602678819172646912), (1, .class_ 10), (0, u "com/example/nocord/nocord/bench/Latencies"), (0, .methodref 9 3), (0, .methodref 9 13), (0, .nameAndType 14 15), (0, u "record"), (0, u "(J)V"), (0, .methodref 9 17), (0, .nameAndType 18 19), (0, u "percentile"), (0, u "(D)J"), (0, .methodref 9 21), (0, .nameAndType 22 23), (0, u "add"), (0, u "(Lcom/example/nocord/nocord/bench/Latencies;)V"), (0, .methodref 25 26), (0, .class_ 27), (0, .nameAndType 28 29), (0, u "java/lang/Math"), (0, u "min"), (0, u "(JJ)J"), (0, .methodref 25 31), (0, .nameAndType 32 29), (0, u "max"), (0, .methodref 9 34), (0, .nameAndType 35 36), (0, u "count"), (0, u "()J"), (0, .long 3), (1, .class_ 40), (0, u "com/example/nocord/nocord/bench/LatenciesAddPinLaw"), (2, u "law"), (0, u "(JJJ)Z")] 3

def k1m0 : Method := { name := "<init>", desc := "()V", sig := { parameters := [], returnType := none }, accessFlags := 2, code := none }
def k1c1 : Code := { maxStack := 6, maxLocals := 27, code := code, exceptionTable := #[], attributes := #[] }
def k1m1 : Method := { name := "law", desc := "(JJJ)Z", sig := { parameters := [.long, .long, .long], returnType := some .boolean }, accessFlags := 9, code := some k1c1 }
/-- com/example/nocord/nocord/bench/LatenciesAddPinLaw -/
def k1 : Class := { plain "com/example/nocord/nocord/bench/LatenciesAddPinLaw" (some 0) with
  accessFlags := 49
  interfaces := #[]
  cf := some (fileOf pool1 39 #[] #[{ accessFlags := 2, nameIndex := 5, descriptorIndex := 6, attributes := #[] }, { accessFlags := 9, nameIndex := 43, descriptorIndex := 44, attributes := #[] }] 49 2 #[] #[])
  fields := #[]
  methods := #[k1m0, k1m1]
  instanceTypes := #[]
  staticTypes := #[]
  resolved := Array.replicate 48 none
  statics := none }

def pool2 : Array CpInfo := pool [(1, .methodref 2 3), (0, .class_ 4), (0, .nameAndType 5 6), (0, u "java/lang/Object"), (0, u "<init>"), (0, u "()V"), (0, .class_ 8), (0, u "com/example/nocord/nocord/bench/Latencies"), (0, .class_ 10), (0, u "java/lang/Long"), (0, .fieldref 7 12), (0, .nameAndType 13 14), (0, u "counts"), (0, u "[J"), (0, .methodref 16 17), (0, .class_ 18), (0, .nameAndType 19 20), (0, u "java/lang/Math"), (0, u "max"), (0, u "(JJ)J"), (0, .methodref 7 22), (0, .nameAndType 23 24), (0, u "bucket"), (0, u "(J)I"), (0, .fieldref 7 26), (0, .nameAndType 27 28), (0, u "total"), (0, u "J"), (0, .methodref 16 30), (0, .nameAndType 31 32), (0, u "ceil"), (0, u "(D)D"), (0, .methodref 7 34), (0, .nameAndType 35 36), (0, u "middle"), (0, u "(I)J"), (0, .long 256), (1, .methodref 9 40), (0, .nameAndType 41 24), (0, u "numberOfLeadingZeros"), (0, .long 2), (1, u "EXACT"), (0, u "I"), (2, u "SUB_BUCKETS"), (1, u "FIRST_SHARED"), (3, u "record"), (0, u "(J)V"), (0, u "add"), (0, u "(Lcom/example/nocord/nocord/bench/Latencies;)V"), (1, u "count"), (0, u "()J"), (0, u "percentile"), (0, u "(D)J")] 2

def k2c0 : Code := { maxStack := 2, maxLocals := 1, code := prog_5_method_1_code, exceptionTable := #[], attributes := #[] }
def k2m0 : Method := { name := "<init>", desc := "()V", sig := { parameters := [], returnType := none }, accessFlags := 0, code := some k2c0 }
def k2c1 : Code := { maxStack := 6, maxLocals := 3, code := prog_5_method_2_code, exceptionTable := #[], attributes := #[] }
def k2m1 : Method := { name := "record", desc := "(J)V", sig := { parameters := [.long], returnType := none }, accessFlags := 0, code := some k2c1 }
def k2c2 : Code := { maxStack := 6, maxLocals := 3, code := prog_5_method_3_code, exceptionTable := #[], attributes := #[] }
def k2m2 : Method := { name := "add", desc := "(Lcom/example/nocord/nocord/bench/Latencies;)V", sig := { parameters := [(.object "com/example/nocord/nocord/bench/Latencies")], returnType := none }, accessFlags := 0, code := some k2c2 }
def k2c3 : Code := { maxStack := 2, maxLocals := 1, code := prog_5_method_4_code, exceptionTable := #[], attributes := #[] }
def k2m3 : Method := { name := "count", desc := "()J", sig := { parameters := [], returnType := some .long }, accessFlags := 0, code := some k2c3 }
def k2c4 : Code := { maxStack := 6, maxLocals := 8, code := prog_5_method_5_code, exceptionTable := #[], attributes := #[] }
def k2m4 : Method := { name := "percentile", desc := "(D)J", sig := { parameters := [.double], returnType := some .long }, accessFlags := 0, code := some k2c4 }
def k2c5 : Code := { maxStack := 4, maxLocals := 5, code := prog_5_method_6_code, exceptionTable := #[], attributes := #[] }
def k2m5 : Method := { name := "bucket", desc := "(J)I", sig := { parameters := [.long], returnType := some .int }, accessFlags := 10, code := some k2c5 }
def k2c6 : Code := { maxStack := 6, maxLocals := 6, code := prog_5_method_7_code, exceptionTable := #[], attributes := #[] }
def k2m6 : Method := { name := "middle", desc := "(I)J", sig := { parameters := [.int], returnType := some .long }, accessFlags := 10, code := some k2c6 }
/-- com/example/nocord/nocord/bench/Latencies -/
def k2 : Class := { plain "com/example/nocord/nocord/bench/Latencies" (some 0) with
  accessFlags := 48
  interfaces := #[]
  cf := some (fileOf pool2 7 #[] #[{ accessFlags := 0, nameIndex := 5, descriptorIndex := 6, attributes := #[] }, { accessFlags := 0, nameIndex := 54, descriptorIndex := 55, attributes := #[] }, { accessFlags := 0, nameIndex := 56, descriptorIndex := 57, attributes := #[] }, { accessFlags := 0, nameIndex := 59, descriptorIndex := 60, attributes := #[] }, { accessFlags := 0, nameIndex := 61, descriptorIndex := 62, attributes := #[] }, { accessFlags := 10, nameIndex := 23, descriptorIndex := 24, attributes := #[] }, { accessFlags := 10, nameIndex := 35, descriptorIndex := 36, attributes := #[] }] 48 2 #[] #[{ accessFlags := 26, nameIndex := 44, descriptorIndex := 45, attributes := #[] }, { accessFlags := 26, nameIndex := 48, descriptorIndex := 45, attributes := #[] }, { accessFlags := 26, nameIndex := 50, descriptorIndex := 45, attributes := #[] }, { accessFlags := 18, nameIndex := 13, descriptorIndex := 14, attributes := #[] }, { accessFlags := 2, nameIndex := 27, descriptorIndex := 28, attributes := #[] }])
  fields := #[{ name := "EXACT", type := .int, accessFlags := 26, slot := 0, constantValue := 0 }, { name := "SUB_BUCKETS", type := .int, accessFlags := 26, slot := 1, constantValue := 0 }, { name := "FIRST_SHARED", type := .int, accessFlags := 26, slot := 2, constantValue := 0 }, { name := "counts", type := (.array .long), accessFlags := 18, slot := 0, constantValue := 0 }, { name := "total", type := .long, accessFlags := 2, slot := 1, constantValue := 0 }]
  methods := #[k2m0, k2m1, k2m2, k2m3, k2m4, k2m5, k2m6]
  instanceTypes := #[(.array .long), .long]
  staticTypes := #[.int, .int, .int]
  resolved := Array.replicate 65 none
  statics := none }

def pool3 : Array CpInfo := pool [(1, .class_ 2), (0, u "java/lang/Math"), (1, .class_ 6), (1, u "java/lang/Object"), (0, u "<init>"), (0, u "()V"), (1, .class_ 12), (1, u "java/lang/StrictMath"), (1, u "(D)D"), (38, .methodref 10 54), (0, .nameAndType 55 14), (0, u "ceil"), (23, .methodref 80 81), (0, .class_ 82), (0, .nameAndType 83 84), (0, u "java/lang/Double"), (0, u "doubleToRawLongBits"), (0, u "(D)J"), (2, .long 9218868437227405312), (10, .class_ 100), (1, u "java/lang/Math$RandomNumberGeneratorHolder"), (20, u "(JJ)J"), (50, u "negativeZeroFloatBits"), (0, u "J"), (2, u "negativeZeroDoubleBits"), (21, u "max"), (2, u "min"), (43, u "$assertionsDisabled"), (0, u "Z"), (33, u "getExponent"), (0, u "(D)I"), (40, .long 1023), (15, u "twoToTheDoubleScaleDown"), (0, u "D"), (4, u "twoToTheDoubleScaleUp"), (9, u "E"), (3, u "PI"), (2, u "TAU"), (2, u "DEGREES_TO_RADIANS"), (0, u "RADIANS_TO_DEGREES")] 94

def k3m0 : Method := { name := "<init>", desc := "()V", sig := { parameters := [], returnType := none }, accessFlags := 2, code := none }
def k3c1 : Code := { maxStack := 2, maxLocals := 2, code := jdk_29_method_16_code, exceptionTable := #[], attributes := #[] }
def k3m1 : Method := { name := "ceil", desc := "(D)D", sig := { parameters := [.double], returnType := some .double }, accessFlags := 9, code := some k3c1 }
def k3c2 : Code := { maxStack := 4, maxLocals := 4, code := jdk_29_method_66_code, exceptionTable := #[], attributes := #[] }
def k3m2 : Method := { name := "max", desc := "(JJ)J", sig := { parameters := [.long, .long], returnType := some .long }, accessFlags := 9, code := some k3c2 }
def k3c3 : Code := { maxStack := 4, maxLocals := 4, code := jdk_29_method_70_code, exceptionTable := #[], attributes := #[] }
def k3m3 : Method := { name := "min", desc := "(JJ)J", sig := { parameters := [.long, .long], returnType := some .long }, accessFlags := 9, code := some k3c3 }
def k3c4 : Code := { maxStack := 4, maxLocals := 2, code := jdk_29_method_92_code, exceptionTable := #[], attributes := #[] }
def k3m4 : Method := { name := "getExponent", desc := "(D)I", sig := { parameters := [.double], returnType := some .int }, accessFlags := 9, code := some k3c4 }
/-- java/lang/Math -/
def k3 : Class := { plain "java/lang/Math" (some 0) with
  accessFlags := 49
  interfaces := #[]
  cf := some (fileOf pool3 1 #[.nestMembers #[98]] #[{ accessFlags := 2, nameIndex := 7, descriptorIndex := 8, attributes := #[] }, { accessFlags := 9, nameIndex := 55, descriptorIndex := 14, attributes := #[] }, { accessFlags := 9, nameIndex := 198, descriptorIndex := 121, attributes := #[] }, { accessFlags := 9, nameIndex := 201, descriptorIndex := 121, attributes := #[] }, { accessFlags := 9, nameIndex := 280, descriptorIndex := 281, attributes := #[] }] 49 4 #[] #[{ accessFlags := 25, nameIndex := 354, descriptorIndex := 339, attributes := #[] }, { accessFlags := 25, nameIndex := 358, descriptorIndex := 339, attributes := #[] }, { accessFlags := 25, nameIndex := 361, descriptorIndex := 339, attributes := #[] }, { accessFlags := 26, nameIndex := 364, descriptorIndex := 339, attributes := #[] }, { accessFlags := 26, nameIndex := 365, descriptorIndex := 339, attributes := #[] }, { accessFlags := 26, nameIndex := 172, descriptorIndex := 173, attributes := #[] }, { accessFlags := 26, nameIndex := 176, descriptorIndex := 173, attributes := #[] }, { accessFlags := 8, nameIndex := 344, descriptorIndex := 339, attributes := #[] }, { accessFlags := 8, nameIndex := 338, descriptorIndex := 339, attributes := #[] }, { accessFlags := 4120, nameIndex := 245, descriptorIndex := 246, attributes := #[] }])
  fields := #[{ name := "E", type := .double, accessFlags := 25, slot := 0, constantValue := 0 }, { name := "PI", type := .double, accessFlags := 25, slot := 1, constantValue := 0 }, { name := "TAU", type := .double, accessFlags := 25, slot := 2, constantValue := 0 }, { name := "DEGREES_TO_RADIANS", type := .double, accessFlags := 26, slot := 3, constantValue := 0 }, { name := "RADIANS_TO_DEGREES", type := .double, accessFlags := 26, slot := 4, constantValue := 0 }, { name := "negativeZeroFloatBits", type := .long, accessFlags := 26, slot := 5, constantValue := 0 }, { name := "negativeZeroDoubleBits", type := .long, accessFlags := 26, slot := 6, constantValue := 0 }, { name := "twoToTheDoubleScaleUp", type := .double, accessFlags := 8, slot := 7, constantValue := 0 }, { name := "twoToTheDoubleScaleDown", type := .double, accessFlags := 8, slot := 8, constantValue := 0 }, { name := "$assertionsDisabled", type := .boolean, accessFlags := 4120, slot := 9, constantValue := 0 }]
  methods := #[k3m0, k3m1, k3m2, k3m3, k3m4]
  instanceTypes := #[]
  staticTypes := #[.double, .double, .double, .double, .double, .long, .long, .double, .double, .boolean]
  resolved := Array.replicate 460 none
  statics := none }

def pool4 : Array CpInfo := pool [(1, .class_ 2), (0, u "java/lang/StrictMath"), (1, .class_ 6), (1, u "java/lang/Object"), (0, u "<init>"), (0, u "()V"), (5, u "(D)D"), (16, .class_ 33), (1, u "java/lang/Math"), (24, .double 9223372036854775808), (1, .methodref 1 61), (0, .nameAndType 62 63), (0, u "floorOrCeil"), (0, u "(DDDD)D"), (2, .methodref 31 67), (0, .nameAndType 68 69), (0, u "getExponent"), (0, u "(D)I"), (0, .fieldref 1 71), (0, .nameAndType 72 73), (0, u "$assertionsDisabled"), (0, u "Z"), (3, .methodref 78 79), (0, .class_ 80), (0, .nameAndType 81 82), (0, u "java/lang/Double"), (0, u "doubleToRawLongBits"), (0, u "(D)J"), (2, .long 4503599627370495), (1, .long 18446744073709551615), (1, .methodref 78 90), (0, .nameAndType 91 92), (0, u "longBitsToDouble"), (0, u "(J)D"), (21, .class_ 116), (1, u "java/lang/StrictMath$RandomNumberGeneratorHolder"), (222, u "E"), (0, u "D"), (3, u "PI"), (2, u "TAU"), (26, u "ceil")] 61

def k4m0 : Method := { name := "<init>", desc := "()V", sig := { parameters := [], returnType := none }, accessFlags := 2, code := none }
def k4c1 : Code := { maxStack := 8, maxLocals := 2, code := jdk_128_method_16_code, exceptionTable := #[], attributes := #[] }
def k4m1 : Method := { name := "ceil", desc := "(D)D", sig := { parameters := [.double], returnType := some .double }, accessFlags := 9, code := some k4c1 }
def k4c2 : Code := { maxStack := 6, maxLocals := 15, code := jdk_128_method_18_code, exceptionTable := #[], attributes := #[] }
def k4m2 : Method := { name := "floorOrCeil", desc := "(DDDD)D", sig := { parameters := [.double, .double, .double, .double], returnType := some .double }, accessFlags := 10, code := some k4c2 }
/-- java/lang/StrictMath -/
def k4 : Class := { plain "java/lang/StrictMath" (some 0) with
  accessFlags := 49
  interfaces := #[]
  cf := some (fileOf pool4 1 #[.nestMembers #[114]] #[{ accessFlags := 2, nameIndex := 7, descriptorIndex := 8, attributes := #[] }, { accessFlags := 9, nameIndex := 374, descriptorIndex := 14, attributes := #[] }, { accessFlags := 10, nameIndex := 62, descriptorIndex := 63, attributes := #[] }] 49 4 #[] #[{ accessFlags := 25, nameIndex := 339, descriptorIndex := 340, attributes := #[] }, { accessFlags := 25, nameIndex := 344, descriptorIndex := 340, attributes := #[] }, { accessFlags := 25, nameIndex := 347, descriptorIndex := 340, attributes := #[] }, { accessFlags := 4120, nameIndex := 72, descriptorIndex := 73, attributes := #[] }])
  fields := #[{ name := "E", type := .double, accessFlags := 25, slot := 0, constantValue := 0 }, { name := "PI", type := .double, accessFlags := 25, slot := 1, constantValue := 0 }, { name := "TAU", type := .double, accessFlags := 25, slot := 2, constantValue := 0 }, { name := "$assertionsDisabled", type := .boolean, accessFlags := 4120, slot := 3, constantValue := 0 }]
  methods := #[k4m0, k4m1, k4m2]
  instanceTypes := #[]
  staticTypes := #[.double, .double, .double, .boolean]
  resolved := Array.replicate 436 none
  statics := some 0 }

def pool5 : Array CpInfo := pool [(1, .class_ 2), (0, u "java/io/Serializable"), (0, .class_ 4), (0, u "java/lang/Object")] 2

/-- java/io/Serializable -/
def k5 : Class := { plain "java/io/Serializable" (some 0) with
  accessFlags := 1537
  interfaces := #[]
  cf := some (fileOf pool5 1 #[] #[] 1537 3 #[] #[])
  fields := #[]
  methods := #[]
  instanceTypes := #[]
  staticTypes := #[]
  resolved := Array.replicate 7 none
  statics := none }

def pool6 : Array CpInfo := pool [(2, .class_ 4), (1, u "java/lang/Object"), (0, u "<init>"), (0, u "()V"), (1, .class_ 10), (1, u "java/lang/Number"), (2, .class_ 14), (0, u "java/io/Serializable"), (0, u "serialVersionUID"), (0, u "J")] 20

def k6m0 : Method := { name := "<init>", desc := "()V", sig := { parameters := [], returnType := none }, accessFlags := 1, code := none }
/-- java/lang/Number -/
def k6 : Class := { plain "java/lang/Number" (some 0) with
  accessFlags := 1057
  interfaces := #[5]
  cf := some (fileOf pool6 8 #[] #[{ accessFlags := 1, nameIndex := 5, descriptorIndex := 6, attributes := #[] }] 1057 2 #[13] #[{ accessFlags := 26, nameIndex := 15, descriptorIndex := 16, attributes := #[] }])
  fields := #[{ name := "serialVersionUID", type := .long, accessFlags := 26, slot := 0, constantValue := 0 }]
  methods := #[k6m0]
  instanceTypes := #[]
  staticTypes := #[.long]
  resolved := Array.replicate 37 none
  statics := none }

def pool7 : Array CpInfo := pool [(1, .class_ 2), (0, u "java/lang/Comparable"), (0, .class_ 4), (0, u "java/lang/Object")] 7

/-- java/lang/Comparable -/
def k7 : Class := { plain "java/lang/Comparable" (some 0) with
  accessFlags := 1537
  interfaces := #[]
  cf := some (fileOf pool7 1 #[] #[] 1537 3 #[] #[])
  fields := #[]
  methods := #[]
  instanceTypes := #[]
  staticTypes := #[]
  resolved := Array.replicate 12 none
  statics := none }

def pool8 : Array CpInfo := pool [(1, .class_ 2), (0, u "java/lang/constant/Constable"), (0, .class_ 4), (0, u "java/lang/Object")] 6

/-- java/lang/constant/Constable -/
def k8 : Class := { plain "java/lang/constant/Constable" (some 0) with
  accessFlags := 1537
  interfaces := #[]
  cf := some (fileOf pool8 1 #[] #[] 1537 3 #[] #[])
  fields := #[]
  methods := #[]
  instanceTypes := #[]
  staticTypes := #[]
  resolved := Array.replicate 11 none
  statics := none }

def pool9 : Array CpInfo := pool [(1, .class_ 2), (0, u "java/lang/constant/ConstantDesc"), (0, .class_ 4), (0, u "java/lang/Object")] 32

/-- java/lang/constant/ConstantDesc -/
def k9 : Class := { plain "java/lang/constant/ConstantDesc" (some 0) with
  accessFlags := 1537
  interfaces := #[]
  cf := some (fileOf pool9 1 #[] #[] 1537 3 #[] #[])
  fields := #[]
  methods := #[]
  instanceTypes := #[]
  staticTypes := #[]
  resolved := Array.replicate 37 none
  statics := none }

def pool10 : Array CpInfo := pool [(1, .class_ 2), (0, u "java/lang/Double"), (46, u "(D)J"), (64, .class_ 116), (1, u "java/lang/Number"), (3, u "value"), (0, u "D"), (14, u "doubleToRawLongBits"), (36, u "TYPE"), (0, u "Ljava/lang/Class;"), (0, .class_ 176), (0, u "java/lang/Comparable"), (0, .class_ 178), (0, u "java/lang/constant/Constable"), (0, .class_ 180), (0, u "java/lang/constant/ConstantDesc"), (0, u "POSITIVE_INFINITY"), (3, u "NEGATIVE_INFINITY"), (2, u "NaN"), (2, u "MAX_VALUE"), (0, u "MIN_NORMAL"), (0, u "MIN_VALUE"), (2, u "SIZE"), (0, u "I"), (1, u "PRECISION"), (1, u "MAX_EXPONENT"), (1, u "MIN_EXPONENT"), (1, u "BYTES"), (3, u "serialVersionUID"), (0, u "J"), (48, u "longBitsToDouble"), (0, u "(J)D")] 29

def k10m0 : Method := { name := "doubleToRawLongBits", desc := "(D)J", sig := { parameters := [.double], returnType := some .long }, accessFlags := 265, code := none }
def k10m1 : Method := { name := "longBitsToDouble", desc := "(J)D", sig := { parameters := [.long], returnType := some .double }, accessFlags := 265, code := none }
/-- java/lang/Double -/
def k10 : Class := { plain "java/lang/Double" (some 6) with
  accessFlags := 49
  interfaces := #[7, 8, 9]
  cf := some (fileOf pool10 1 #[] #[{ accessFlags := 265, nameIndex := 136, descriptorIndex := 49, attributes := #[] }, { accessFlags := 265, nameIndex := 259, descriptorIndex := 260, attributes := #[] }] 49 114 #[175, 177, 179] #[{ accessFlags := 25, nameIndex := 181, descriptorIndex := 121, attributes := #[] }, { accessFlags := 25, nameIndex := 185, descriptorIndex := 121, attributes := #[] }, { accessFlags := 25, nameIndex := 188, descriptorIndex := 121, attributes := #[] }, { accessFlags := 25, nameIndex := 191, descriptorIndex := 121, attributes := #[] }, { accessFlags := 25, nameIndex := 192, descriptorIndex := 121, attributes := #[] }, { accessFlags := 25, nameIndex := 193, descriptorIndex := 121, attributes := #[] }, { accessFlags := 25, nameIndex := 196, descriptorIndex := 197, attributes := #[] }, { accessFlags := 25, nameIndex := 199, descriptorIndex := 197, attributes := #[] }, { accessFlags := 25, nameIndex := 201, descriptorIndex := 197, attributes := #[] }, { accessFlags := 25, nameIndex := 203, descriptorIndex := 197, attributes := #[] }, { accessFlags := 25, nameIndex := 205, descriptorIndex := 197, attributes := #[] }, { accessFlags := 25, nameIndex := 173, descriptorIndex := 174, attributes := #[] }, { accessFlags := 18, nameIndex := 120, descriptorIndex := 121, attributes := #[] }, { accessFlags := 26, nameIndex := 209, descriptorIndex := 210, attributes := #[] }])
  fields := #[{ name := "POSITIVE_INFINITY", type := .double, accessFlags := 25, slot := 0, constantValue := 0 }, { name := "NEGATIVE_INFINITY", type := .double, accessFlags := 25, slot := 1, constantValue := 0 }, { name := "NaN", type := .double, accessFlags := 25, slot := 2, constantValue := 0 }, { name := "MAX_VALUE", type := .double, accessFlags := 25, slot := 3, constantValue := 0 }, { name := "MIN_NORMAL", type := .double, accessFlags := 25, slot := 4, constantValue := 0 }, { name := "MIN_VALUE", type := .double, accessFlags := 25, slot := 5, constantValue := 0 }, { name := "SIZE", type := .int, accessFlags := 25, slot := 6, constantValue := 0 }, { name := "PRECISION", type := .int, accessFlags := 25, slot := 7, constantValue := 0 }, { name := "MAX_EXPONENT", type := .int, accessFlags := 25, slot := 8, constantValue := 0 }, { name := "MIN_EXPONENT", type := .int, accessFlags := 25, slot := 9, constantValue := 0 }, { name := "BYTES", type := .int, accessFlags := 25, slot := 10, constantValue := 0 }, { name := "TYPE", type := (.object "java/lang/Class"), accessFlags := 25, slot := 11, constantValue := 0 }, { name := "value", type := .double, accessFlags := 18, slot := 0, constantValue := 0 }, { name := "serialVersionUID", type := .long, accessFlags := 26, slot := 12, constantValue := 0 }]
  methods := #[k10m0, k10m1]
  instanceTypes := #[.double]
  staticTypes := #[.double, .double, .double, .double, .double, .double, .int, .int, .int, .int, .int, (.object "java/lang/Class"), .long]
  resolved := Array.replicate 290 none
  statics := none }

def pool11 : Array CpInfo := pool [(1, .class_ 2), (0, u "java/lang/Long"), (15, .class_ 20), (1, u "java/lang/Integer"), (79, u "numberOfLeadingZeros"), (0, u "(J)I"), (133, .class_ 237), (1, u "java/lang/Long$LongCache"), (33, .class_ 272), (0, u "java/lang/Number"), (2, u "value"), (0, u "J"), (31, .methodref 18 309), (0, .nameAndType 100 310), (0, u "(I)I"), (50, u "TYPE"), (0, u "Ljava/lang/Class;"), (0, .class_ 364), (0, u "java/lang/Comparable"), (0, .class_ 366), (0, u "java/lang/constant/Constable"), (0, .class_ 368), (0, u "java/lang/constant/ConstantDesc"), (0, u "MIN_VALUE"), (1, u "MAX_VALUE"), (4, u "SIZE"), (0, u "I"), (1, u "BYTES"), (1, u "serialVersionUID")] 142

def k11c0 : Code := { maxStack := 3, maxLocals := 3, code := jdk_35_method_48_code, exceptionTable := #[], attributes := #[] }
def k11m0 : Method := { name := "numberOfLeadingZeros", desc := "(J)I", sig := { parameters := [.long], returnType := some .int }, accessFlags := 9, code := some k11c0 }
/-- java/lang/Long -/
def k11 : Class := { plain "java/lang/Long" (some 6) with
  accessFlags := 49
  interfaces := #[7, 8, 9]
  cf := some (fileOf pool11 1 #[.nestMembers #[235]] #[{ accessFlags := 9, nameIndex := 100, descriptorIndex := 101, attributes := #[] }] 49 271 #[363, 365, 367] #[{ accessFlags := 25, nameIndex := 369, descriptorIndex := 276, attributes := #[] }, { accessFlags := 25, nameIndex := 371, descriptorIndex := 276, attributes := #[] }, { accessFlags := 25, nameIndex := 361, descriptorIndex := 362, attributes := #[] }, { accessFlags := 18, nameIndex := 275, descriptorIndex := 276, attributes := #[] }, { accessFlags := 25, nameIndex := 376, descriptorIndex := 377, attributes := #[] }, { accessFlags := 25, nameIndex := 379, descriptorIndex := 377, attributes := #[] }, { accessFlags := 26, nameIndex := 381, descriptorIndex := 276, attributes := #[] }])
  fields := #[{ name := "MIN_VALUE", type := .long, accessFlags := 25, slot := 0, constantValue := 0 }, { name := "MAX_VALUE", type := .long, accessFlags := 25, slot := 1, constantValue := 0 }, { name := "TYPE", type := (.object "java/lang/Class"), accessFlags := 25, slot := 2, constantValue := 0 }, { name := "value", type := .long, accessFlags := 18, slot := 0, constantValue := 0 }, { name := "SIZE", type := .int, accessFlags := 25, slot := 3, constantValue := 0 }, { name := "BYTES", type := .int, accessFlags := 25, slot := 4, constantValue := 0 }, { name := "serialVersionUID", type := .long, accessFlags := 26, slot := 5, constantValue := 0 }]
  methods := #[k11m0]
  instanceTypes := #[.long]
  staticTypes := #[.long, .long, (.object "java/lang/Class"), .int, .int, .long]
  resolved := Array.replicate 524 none
  statics := none }

def pool12 : Array CpInfo := pool [(1, .class_ 2), (0, u "java/lang/Integer"), (16, u "digits"), (0, u "[C"), (32, u "numberOfLeadingZeros"), (0, u "(I)I"), (30, u "DigitOnes"), (0, u "[B"), (2, u "DigitTens"), (99, .class_ 190), (0, u "java/lang/Integer$IntegerCache"), (3, u "I"), (8, .class_ 204), (0, u "java/lang/Number"), (2, u "value"), (56, .integer 65536), (37, u "TYPE"), (0, u "Ljava/lang/Class;"), (0, .class_ 305), (0, u "java/lang/Comparable"), (0, .class_ 307), (0, u "java/lang/constant/Constable"), (0, .class_ 309), (0, u "java/lang/constant/ConstantDesc"), (0, u "MIN_VALUE"), (1, u "MAX_VALUE"), (3, u "SIZE"), (1, u "BYTES"), (1, u "serialVersionUID"), (0, u "J")] 131

def k12c0 : Code := { maxStack := 3, maxLocals := 2, code := jdk_33_method_47_code, exceptionTable := #[], attributes := #[] }
def k12m0 : Method := { name := "numberOfLeadingZeros", desc := "(I)I", sig := { parameters := [.int], returnType := some .int }, accessFlags := 9, code := some k12c0 }
/-- java/lang/Integer -/
def k12 : Class := { plain "java/lang/Integer" (some 6) with
  accessFlags := 49
  interfaces := #[7, 8, 9]
  cf := some (fileOf pool12 1 #[.nestMembers #[189]] #[{ accessFlags := 9, nameIndex := 53, descriptorIndex := 54, attributes := #[] }] 49 203 #[304, 306, 308] #[{ accessFlags := 25, nameIndex := 310, descriptorIndex := 194, attributes := #[] }, { accessFlags := 25, nameIndex := 312, descriptorIndex := 194, attributes := #[] }, { accessFlags := 25, nameIndex := 302, descriptorIndex := 303, attributes := #[] }, { accessFlags := 24, nameIndex := 19, descriptorIndex := 20, attributes := #[] }, { accessFlags := 24, nameIndex := 89, descriptorIndex := 86, attributes := #[] }, { accessFlags := 24, nameIndex := 85, descriptorIndex := 86, attributes := #[] }, { accessFlags := 18, nameIndex := 207, descriptorIndex := 194, attributes := #[] }, { accessFlags := 25, nameIndex := 316, descriptorIndex := 194, attributes := #[] }, { accessFlags := 25, nameIndex := 318, descriptorIndex := 194, attributes := #[] }, { accessFlags := 26, nameIndex := 320, descriptorIndex := 321, attributes := #[] }])
  fields := #[{ name := "MIN_VALUE", type := .int, accessFlags := 25, slot := 0, constantValue := 0 }, { name := "MAX_VALUE", type := .int, accessFlags := 25, slot := 1, constantValue := 0 }, { name := "TYPE", type := (.object "java/lang/Class"), accessFlags := 25, slot := 2, constantValue := 0 }, { name := "digits", type := (.array .char), accessFlags := 24, slot := 3, constantValue := 0 }, { name := "DigitTens", type := (.array .byte), accessFlags := 24, slot := 4, constantValue := 0 }, { name := "DigitOnes", type := (.array .byte), accessFlags := 24, slot := 5, constantValue := 0 }, { name := "value", type := .int, accessFlags := 18, slot := 0, constantValue := 0 }, { name := "SIZE", type := .int, accessFlags := 25, slot := 6, constantValue := 0 }, { name := "BYTES", type := .int, accessFlags := 25, slot := 7, constantValue := 0 }, { name := "serialVersionUID", type := .long, accessFlags := 26, slot := 8, constantValue := 0 }]
  methods := #[k12m0]
  instanceTypes := #[.int]
  staticTypes := #[.int, .int, (.object "java/lang/Class"), (.array .char), (.array .byte), (.array .byte), .int, .int, .long]
  resolved := Array.replicate 453 none
  statics := none }

def pool13 : Array CpInfo := pool [(1, u "java/lang/Cloneable"), (0, .class_ 1), (0, u "java/lang/Object"), (0, .class_ 3)] 3

/-- java/lang/Cloneable -/
def k13 : Class := { plain "java/lang/Cloneable" (some 0) with
  accessFlags := 1537
  interfaces := #[]
  cf := some (fileOf pool13 2 #[] #[] 1537 4 #[] #[])
  fields := #[]
  methods := #[]
  instanceTypes := #[]
  staticTypes := #[]
  resolved := Array.replicate 8 none
  statics := none }

/-- the primitive byte -/
def k14 : Class := { plain "byte" none with kind := .primitive 'B', accessFlags := 0x411 }
/-- [B -/
def k15 : Class := { plain "[B" (some 0) with kind := .array 14 .byte, interfaces := #[13, 5], accessFlags := 1041 }

/-- the primitive int -/
def k16 : Class := { plain "int" none with kind := .primitive 'I', accessFlags := 0x411 }
/-- [I -/
def k17 : Class := { plain "[I" (some 0) with kind := .array 16 .int, interfaces := #[13, 5], accessFlags := 1041 }

/-- the primitive long -/
def k18 : Class := { plain "long" none with kind := .primitive 'J', accessFlags := 0x411 }
/-- [J -/
def k19 : Class := { plain "[J" (some 0) with kind := .array 18 .long, interfaces := #[13, 5], accessFlags := 1041 }

def heap : Heap := #[{ cls := 4, slots := #[.double 0, .double 0, .double 0, .int 1], vm := .statics 4 }]
def classes : Array Class := #[k0, k1, k2, k3, k4, k5, k6, k7, k8, k9, k10, k11, k12, k13, k14, k15, k16, k17, k18, k19]
def interned : List (Array UInt16 × Addr) := []
def slotsUsed : Nat := 4
def theMethod : MethodId := ⟨1, 1⟩
def args0 : Array Value := #[.long 5, .long 7, .long 3]
def aboutOver (below : List Frame) : State where
  vm := { classes := classes, interned := interned.toArray }
  heap := heap
  slotsUsed := slotsUsed
  threads := #[{ frames := .invoking theMethod args0 :: below }]
def below0 : List Frame := [.native { method := ⟨0, 0⟩, args := #[] }]
def about1 : State := aboutOver below0
def p0 : Program := .bare "" "" ""
def e0 : Env := launch0.env 0 0 0
theorem w_frames : about1.frames = Frame.invoking theMethod args0 :: below0 := rfl
set_option maxRecDepth 65536 in
theorem w_args : argsFit about1.vm theMethod args0 = true := by decide +kernel
set_option maxRecDepth 65536 in
theorem w_heap : heapFits about1 = true := by decide +kernel
set_option maxRecDepth 65536 in
theorem w_runnable : about1.curStatus? = some .runnable := by decide +kernel
set_option maxRecDepth 65536 in
theorem w_alone : about1.alone = true := by decide +kernel
set_option maxRecDepth 65536 in
theorem w_named : about1.methodNamed? x = some theMethod := by decide +kernel
set_option maxRecDepth 65536 in
theorem w_hears : about1.hears theMethod below0 = true := by decide +kernel
set_option maxRecDepth 65536 in
theorem w_ripe : about1.ripe theMethod args0 below0 = true := by decide +kernel
theorem w_running : about1.status = .running := rfl
set_option maxRecDepth 65536 in
theorem w_room : about1.hasRoom e0.platform room_1 = true :=
  launch0.hasRoom_least _ room_1 (by decide +kernel) (by decide +kernel) (by decide +kernel) (by decide +kernel) (by decide +kernel) (by decide +kernel)
theorem allAtoms_all (ts : List Jvm.Cond) (a : Array Jvm.Value) (st : Jvm.State) : (allAtoms ts).before a st = ts.all (fun c => c.before a st) := by
  induction ts with
  | nil => rfl
  | cons c t ih =>
    show (Jvm.Cond.and c (allAtoms t)).before a st = _
    rw [Jvm.Cond.before_and, ih, List.all_cons]
def words1 : List Jvm.Cond := Jvm.Cond.code x code maxLocals ret :: tables_1
/-- a 'code' word, met by the world's own term for the bytes: nothing is compared byte by byte -/
theorem code_word {y : MethodName} {bytes : ByteArray} {mx : Nat} {rt : Option FieldType} {a : Array Value} {s : State} {m : MethodId} {meth : Method} {c : Code} (h1 : s.methodNamed? y = some m) (h2 : s.vm.method? m = some meth) (h3 : meth.code = some c) (h4 : c.code = bytes)
    (h5 : (c.maxLocals == mx && c.exceptionTable.isEmpty && decide (c.maxStack ≤ mostOperands) && decide (meth.sig.returnType = rt) && !meth.locks && decide (parseMethodDescriptor y.desc = some meth.sig)) = true) : (Jvm.Cond.code y bytes mx rt).before a s = true := by
  simp only [Bool.and_eq_true, beq_iff_eq, Bool.not_eq_true', decide_eq_true_eq] at h5
  obtain ⟨⟨⟨⟨⟨g1, g2⟩, g3⟩, g4⟩, g5⟩, g6⟩ := h5
  simp [Cond.before, Cond.holds, Cond.value, h1, h2, h3, h4, g1, g2, g3, g4, g5, g6]
def isCode : Jvm.Cond → Bool
  | .code _ _ _ _ => true
  | _ => false
theorem all_split {L : List Jvm.Cond} {P : Jvm.Cond → Bool} (h1 : L.all (fun c => isCode c || P c) = true) (h2 : ∀ c ∈ L.filter isCode, P c = true) : L.all P = true := by
  refine List.all_eq_true.mpr fun c hc => ?_
  have h := List.all_eq_true.mp h1 c hc
  rcases Bool.eq_false_or_eq_true (isCode c) with hi | hi
  · exact h2 c (List.mem_filter.mpr ⟨hc, hi⟩)
  · simpa [hi] using h
set_option maxRecDepth 65536 in
theorem w_c0 : (Jvm.Cond.code x code maxLocals ret).before args0 about1 = true := code_word (m := ⟨1, 1⟩) (meth := k1m1) (c := k1c1) (by decide +kernel) rfl rfl rfl (by decide +kernel)
set_option maxRecDepth 65536 in
theorem w_c1 : (Jvm.Cond.code ({ cls := "com/example/nocord/nocord/bench/Latencies", name := "<init>", desc := "()V" } : Jvm.MethodName) prog_5_method_1_code (1 : Nat) (Option.none : Option Jvm.ClassFile.FieldType)).before args0 about1 = true := code_word (m := ⟨2, 0⟩) (meth := k2m0) (c := k2c0) (by decide +kernel) rfl rfl rfl (by decide +kernel)
set_option maxRecDepth 65536 in
theorem w_c2 : (Jvm.Cond.code ({ cls := "java/lang/Object", name := "<init>", desc := "()V" } : Jvm.MethodName) object_method_1_code (1 : Nat) (Option.none : Option Jvm.ClassFile.FieldType)).before args0 about1 = true := code_word (m := ⟨0, 0⟩) (meth := k0m0) (c := k0c0) (by decide +kernel) rfl rfl rfl (by decide +kernel)
set_option maxRecDepth 65536 in
theorem w_c3 : (Jvm.Cond.code ({ cls := "com/example/nocord/nocord/bench/Latencies", name := "record", desc := "(J)V" } : Jvm.MethodName) prog_5_method_2_code (3 : Nat) (Option.none : Option Jvm.ClassFile.FieldType)).before args0 about1 = true := code_word (m := ⟨2, 1⟩) (meth := k2m1) (c := k2c1) (by decide +kernel) rfl rfl rfl (by decide +kernel)
set_option maxRecDepth 65536 in
theorem w_c4 : (Jvm.Cond.code ({ cls := "java/lang/Math", name := "max", desc := "(JJ)J" } : Jvm.MethodName) jdk_29_method_66_code (4 : Nat) (Option.some Jvm.ClassFile.FieldType.long)).before args0 about1 = true := code_word (m := ⟨3, 2⟩) (meth := k3m2) (c := k3c2) (by decide +kernel) rfl rfl rfl (by decide +kernel)
set_option maxRecDepth 65536 in
theorem w_c5 : (Jvm.Cond.code ({ cls := "com/example/nocord/nocord/bench/Latencies", name := "bucket", desc := "(J)I" } : Jvm.MethodName) prog_5_method_6_code (5 : Nat) (Option.some Jvm.ClassFile.FieldType.int)).before args0 about1 = true := code_word (m := ⟨2, 5⟩) (meth := k2m5) (c := k2c5) (by decide +kernel) rfl rfl rfl (by decide +kernel)
set_option maxRecDepth 65536 in
theorem w_c6 : (Jvm.Cond.code ({ cls := "com/example/nocord/nocord/bench/Latencies", name := "percentile", desc := "(D)J" } : Jvm.MethodName) prog_5_method_5_code (8 : Nat) (Option.some Jvm.ClassFile.FieldType.long)).before args0 about1 = true := code_word (m := ⟨2, 4⟩) (meth := k2m4) (c := k2c4) (by decide +kernel) rfl rfl rfl (by decide +kernel)
set_option maxRecDepth 65536 in
theorem w_c7 : (Jvm.Cond.code ({ cls := "java/lang/Math", name := "ceil", desc := "(D)D" } : Jvm.MethodName) jdk_29_method_16_code (2 : Nat) (Option.some Jvm.ClassFile.FieldType.double)).before args0 about1 = true := code_word (m := ⟨3, 1⟩) (meth := k3m1) (c := k3c1) (by decide +kernel) rfl rfl rfl (by decide +kernel)
set_option maxRecDepth 65536 in
theorem w_c8 : (Jvm.Cond.code ({ cls := "java/lang/StrictMath", name := "ceil", desc := "(D)D" } : Jvm.MethodName) jdk_128_method_16_code (2 : Nat) (Option.some Jvm.ClassFile.FieldType.double)).before args0 about1 = true := code_word (m := ⟨4, 1⟩) (meth := k4m1) (c := k4c1) (by decide +kernel) rfl rfl rfl (by decide +kernel)
set_option maxRecDepth 65536 in
theorem w_c9 : (Jvm.Cond.code ({ cls := "java/lang/StrictMath", name := "floorOrCeil", desc := "(DDDD)D" } : Jvm.MethodName) jdk_128_method_18_code (15 : Nat) (Option.some Jvm.ClassFile.FieldType.double)).before args0 about1 = true := code_word (m := ⟨4, 2⟩) (meth := k4m2) (c := k4c2) (by decide +kernel) rfl rfl rfl (by decide +kernel)
set_option maxRecDepth 65536 in
theorem w_c10 : (Jvm.Cond.code ({ cls := "java/lang/Math", name := "getExponent", desc := "(D)I" } : Jvm.MethodName) jdk_29_method_92_code (2 : Nat) (Option.some Jvm.ClassFile.FieldType.int)).before args0 about1 = true := code_word (m := ⟨3, 4⟩) (meth := k3m4) (c := k3c4) (by decide +kernel) rfl rfl rfl (by decide +kernel)
set_option maxRecDepth 65536 in
theorem w_c11 : (Jvm.Cond.code ({ cls := "com/example/nocord/nocord/bench/Latencies", name := "middle", desc := "(I)J" } : Jvm.MethodName) prog_5_method_7_code (6 : Nat) (Option.some Jvm.ClassFile.FieldType.long)).before args0 about1 = true := code_word (m := ⟨2, 6⟩) (meth := k2m6) (c := k2c6) (by decide +kernel) rfl rfl rfl (by decide +kernel)
set_option maxRecDepth 65536 in
theorem w_c12 : (Jvm.Cond.code ({ cls := "com/example/nocord/nocord/bench/Latencies", name := "add", desc := "(Lcom/example/nocord/nocord/bench/Latencies;)V" } : Jvm.MethodName) prog_5_method_3_code (3 : Nat) (Option.none : Option Jvm.ClassFile.FieldType)).before args0 about1 = true := code_word (m := ⟨2, 2⟩) (meth := k2m2) (c := k2c2) (by decide +kernel) rfl rfl rfl (by decide +kernel)
set_option maxRecDepth 65536 in
theorem w_c13 : (Jvm.Cond.code ({ cls := "java/lang/Math", name := "min", desc := "(JJ)J" } : Jvm.MethodName) jdk_29_method_70_code (4 : Nat) (Option.some Jvm.ClassFile.FieldType.long)).before args0 about1 = true := code_word (m := ⟨3, 3⟩) (meth := k3m3) (c := k3c3) (by decide +kernel) rfl rfl rfl (by decide +kernel)
set_option maxRecDepth 65536 in
theorem w_c14 : (Jvm.Cond.code ({ cls := "com/example/nocord/nocord/bench/Latencies", name := "count", desc := "()J" } : Jvm.MethodName) prog_5_method_4_code (1 : Nat) (Option.some Jvm.ClassFile.FieldType.long)).before args0 about1 = true := code_word (m := ⟨2, 3⟩) (meth := k2m3) (c := k2c3) (by decide +kernel) rfl rfl rfl (by decide +kernel)
set_option maxRecDepth 65536 in
theorem w_c15 : (Jvm.Cond.code ({ cls := "java/lang/Long", name := "numberOfLeadingZeros", desc := "(J)I" } : Jvm.MethodName) jdk_35_method_48_code (3 : Nat) (Option.some Jvm.ClassFile.FieldType.int)).before args0 about1 = true := code_word (m := ⟨11, 0⟩) (meth := k11m0) (c := k11c0) (by decide +kernel) rfl rfl rfl (by decide +kernel)
set_option maxRecDepth 65536 in
theorem w_c16 : (Jvm.Cond.code ({ cls := "java/lang/Integer", name := "numberOfLeadingZeros", desc := "(I)I" } : Jvm.MethodName) jdk_33_method_47_code (2 : Nat) (Option.some Jvm.ClassFile.FieldType.int)).before args0 about1 = true := code_word (m := ⟨12, 0⟩) (meth := k12m0) (c := k12c0) (by decide +kernel) rfl rfl rfl (by decide +kernel)
def codes1 : List Jvm.Cond := [Jvm.Cond.code x code maxLocals ret, Jvm.Cond.code ({ cls := "com/example/nocord/nocord/bench/Latencies", name := "<init>", desc := "()V" } : Jvm.MethodName) prog_5_method_1_code (1 : Nat) (Option.none : Option Jvm.ClassFile.FieldType), Jvm.Cond.code ({ cls := "java/lang/Object", name := "<init>", desc := "()V" } : Jvm.MethodName) object_method_1_code (1 : Nat) (Option.none : Option Jvm.ClassFile.FieldType), Jvm.Cond.code ({ cls := "com/example/nocord/nocord/bench/Latencies", name := "record", desc := "(J)V" } : Jvm.MethodName) prog_5_method_2_code (3 : Nat) (Option.none : Option Jvm.ClassFile.FieldType), Jvm.Cond.code ({ cls := "java/lang/Math", name := "max", desc := "(JJ)J" } : Jvm.MethodName) jdk_29_method_66_code (4 : Nat) (Option.some Jvm.ClassFile.FieldType.long), Jvm.Cond.code ({ cls := "com/example/nocord/nocord/bench/Latencies", name := "bucket", desc := "(J)I" } : Jvm.MethodName) prog_5_method_6_code (5 : Nat) (Option.some Jvm.ClassFile.FieldType.int), Jvm.Cond.code ({ cls := "com/example/nocord/nocord/bench/Latencies", name := "percentile", desc := "(D)J" } : Jvm.MethodName) prog_5_method_5_code (8 : Nat) (Option.some Jvm.ClassFile.FieldType.long), Jvm.Cond.code ({ cls := "java/lang/Math", name := "ceil", desc := "(D)D" } : Jvm.MethodName) jdk_29_method_16_code (2 : Nat) (Option.some Jvm.ClassFile.FieldType.double), Jvm.Cond.code ({ cls := "java/lang/StrictMath", name := "ceil", desc := "(D)D" } : Jvm.MethodName) jdk_128_method_16_code (2 : Nat) (Option.some Jvm.ClassFile.FieldType.double), Jvm.Cond.code ({ cls := "java/lang/StrictMath", name := "floorOrCeil", desc := "(DDDD)D" } : Jvm.MethodName) jdk_128_method_18_code (15 : Nat) (Option.some Jvm.ClassFile.FieldType.double), Jvm.Cond.code ({ cls := "java/lang/Math", name := "getExponent", desc := "(D)I" } : Jvm.MethodName) jdk_29_method_92_code (2 : Nat) (Option.some Jvm.ClassFile.FieldType.int), Jvm.Cond.code ({ cls := "com/example/nocord/nocord/bench/Latencies", name := "middle", desc := "(I)J" } : Jvm.MethodName) prog_5_method_7_code (6 : Nat) (Option.some Jvm.ClassFile.FieldType.long), Jvm.Cond.code ({ cls := "com/example/nocord/nocord/bench/Latencies", name := "add", desc := "(Lcom/example/nocord/nocord/bench/Latencies;)V" } : Jvm.MethodName) prog_5_method_3_code (3 : Nat) (Option.none : Option Jvm.ClassFile.FieldType), Jvm.Cond.code ({ cls := "java/lang/Math", name := "min", desc := "(JJ)J" } : Jvm.MethodName) jdk_29_method_70_code (4 : Nat) (Option.some Jvm.ClassFile.FieldType.long), Jvm.Cond.code ({ cls := "com/example/nocord/nocord/bench/Latencies", name := "count", desc := "()J" } : Jvm.MethodName) prog_5_method_4_code (1 : Nat) (Option.some Jvm.ClassFile.FieldType.long), Jvm.Cond.code ({ cls := "java/lang/Long", name := "numberOfLeadingZeros", desc := "(J)I" } : Jvm.MethodName) jdk_35_method_48_code (3 : Nat) (Option.some Jvm.ClassFile.FieldType.int), Jvm.Cond.code ({ cls := "java/lang/Integer", name := "numberOfLeadingZeros", desc := "(I)I" } : Jvm.MethodName) jdk_33_method_47_code (2 : Nat) (Option.some Jvm.ClassFile.FieldType.int)]
set_option maxRecDepth 65536 in
theorem codes_eq : words1.filter isCode = codes1 := rfl
theorem w_codes : ∀ c ∈ words1.filter isCode, c.before args0 about1 = true := by
  rw [codes_eq]
  intro c hc
  simp only [codes1, List.mem_cons, List.not_mem_nil, or_false] at hc
  rcases hc with rfl | rfl | rfl | rfl | rfl | rfl | rfl | rfl | rfl | rfl | rfl | rfl | rfl | rfl | rfl | rfl | rfl
  · exact w_c0
  · exact w_c1
  · exact w_c2
  · exact w_c3
  · exact w_c4
  · exact w_c5
  · exact w_c6
  · exact w_c7
  · exact w_c8
  · exact w_c9
  · exact w_c10
  · exact w_c11
  · exact w_c12
  · exact w_c13
  · exact w_c14
  · exact w_c15
  · exact w_c16
set_option maxRecDepth 65536 in
theorem w_t1 : (words1.take 24).all (fun c => isCode c || c.before args0 about1) = true := by decide +kernel
set_option maxRecDepth 65536 in
theorem w_t2 : ((words1.drop 24).take 24).all (fun c => isCode c || c.before args0 about1) = true := by decide +kernel
set_option maxRecDepth 65536 in
theorem w_t3 : (((words1.drop 24).drop 24).take 24).all (fun c => isCode c || c.before args0 about1) = true := by decide +kernel
set_option maxRecDepth 65536 in
theorem w_t4 : (((words1.drop 24).drop 24).drop 24).all (fun c => isCode c || c.before args0 about1) = true := by decide +kernel
theorem w_tables : (allAtoms (Jvm.Cond.code x code maxLocals ret :: tables_1)).before args0 about1 = true := by
  rw [allAtoms_all]
  show words1.all (fun c => c.before args0 about1) = true
  refine all_split ?_ w_codes
  rw [← List.take_append_drop 24 words1, List.all_append, w_t1, ← List.take_append_drop 24 (words1.drop 24), List.all_append, w_t2, ← List.take_append_drop 24 ((words1.drop 24).drop 24), List.all_append, w_t3, w_t4]
  rfl
set_option maxRecDepth 65536 in
theorem w_rest : rest_1_c.before args0 about1 = true := by decide +kernel
set_option maxRecDepth 65536 in
theorem w_case : (Jvm.Cond.and given_1 narrow_1).before args0 about1 = true := by decide +kernel
theorem w_applies : (headSpec (Jvm.Cond.code x code maxLocals ret :: tables_1) room_1).applies x e0.platform about1 = true :=
  (Spec.applies_iff w_frames).mpr ⟨w_running, w_runnable, w_alone, w_named, w_hears, w_ripe, w_room, w_tables⟩
theorem atStart : AtStart classFile x code maxLocals ret World_1 tables_1 room_1 Calls_1 rest_1 Pre_1 launch0 p0 e0 about1 theMethod args0 below0 :=
  ⟨lists_1, trivial, launch0.admits_env _ _ _, launch0.least_env, fairChoices_fair.cas, fairChoices_fair.clock, w_frames, w_args, w_heap, w_applies, trivial, w_rest, w_case⟩
end start1
theorem witness_1 : WitnessClaimed_1 := ⟨start1.p0, start1.e0, start1.about1, start1.theMethod, start1.args0, start1.below0, start1.atStart⟩
end Jvm.Pilot.@@N@@
