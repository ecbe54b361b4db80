import JvmDerived
import JvmDerived.Pilot.@@N@@Statement
import JvmDerived.Pilot.@@N@@Code
set_option linter.unusedVariables false
set_option linter.unusedSimpArgs false
namespace Jvm.Pilot.@@N@@
open Jvm Jvm.ClassFile Sem Op Lib Jvm.Free Jvm.Stand Jvm.LawKit Jvm.RoadKit Bundle Jvm.Pilot.@@N@@.Jvm.D
section OwnKit
variable {p : Program} {l : Launch} {e : Env} {R : Room} {s : State} {m : MethodId} {args : Array Value} {below : List Frame} {meth : Method} {c : Code} {T U W : State} {locs : List Loc} {cells slots : Nat} {Q : Option Value → Heap → List Loc → Prop} {K N : Nat}
/-- from U the body comes to its end, and Q holds there -/
def own_Ends (p : Program) (e : Env) (below : List Frame) (s : State) (Q : Option Value → Heap → List Loc → Prop) (K N : Nat) (U : State) : Prop :=
  ∃ s₂ o, Steps p.tables e below U s₂ ∧ s₂.status = .running ∧ Ended s₂ below o ∧ ∃ v L, o = .returned v ∧ Q v s₂.heap L ∧ FrameEnd s o s₂ L K N
theorem own_by {V : State} (h : ∀ t, Steps p.tables e below V t → Steps p.tables e below U t) (k : own_Ends p e below s Q K N V) : own_Ends p e below s Q K N U := by
  obtain ⟨s2, o, h1, h2⟩ := k; exact ⟨s2, o, h _ h1, h2⟩
theorem own_ret0 (X : Stand p l e R s m args below meth c T locs cells slots) (hx : p.tables.exec = Jvm.exec) (hlk : meth.locks = false) {h : Heap} (eT : T.heap = h) {pc : Nat} {Ls : Array Slot} (hret : meth.sig.returnType = none)
    (hd : decode c.code pc = .ok (.return_, 1)) (hQ : Q none h locs) (hK : cells ≤ K) (hN : slots ≤ N) : own_Ends p e below s Q K N (T.setTop (mkF m pc Ls [])) := by
  obtain ⟨fs, hr, hrun, hended, hW, hsame⟩ := X.leave (v := none) (fun _ => rfl) hlk
  exact ⟨_, _, X.returnOut hx hret hd hr, hrun, hended, _, _, rfl, (by subst eT; exact hQ), ⟨_, rfl⟩, hW, hsame.mono hK hN⟩
theorem own_retI (X : Stand p l e R s m args below meth c T locs cells slots) (hx : p.tables.exec = Jvm.exec) (hlk : meth.locks = false) {h : Heap} (eT : T.heap = h) {pc : Nat} {Ls : Array Slot} {z : Int32} {rest : List Value} (hret : meth.sig.returnType = some .int)
    (hd : decode c.code pc = .ok (.ireturn, 1)) (hQ : Q (some (.int z)) h locs) (hK : cells ≤ K) (hN : slots ≤ N) : own_Ends p e below s Q K N (T.setTop (mkF m pc Ls (.int z :: rest))) := by
  obtain ⟨fs, hr, hrun, hended, hW, hsame⟩ := X.leave (v := some (.int z)) (fun h => by rw [hret] at h; cases h) hlk
  exact ⟨_, _, retOut X hx hret rfl (Or.inl ⟨rfl, Or.inl rfl, z, rfl⟩) hd hr, hrun, hended, _, _, rfl, (by subst eT; exact hQ), ⟨_, rfl⟩, hW, hsame.mono hK hN⟩
theorem own_retN (X : Stand p l e R s m args below meth c T locs cells slots) (hx : p.tables.exec = Jvm.exec) (hlk : meth.locks = false) {h : Heap} (eT : T.heap = h) {pc : Nat} {Ls : Array Slot} {z : Int32} {t : FieldType} {rest : List Value} (hret : meth.sig.returnType = some t) (ht : t = .boolean ∨ t = .byte ∨ t = .char ∨ t = .short) (hz : nar t z = z)
    (hd : decode c.code pc = .ok (.ireturn, 1)) (hQ : Q (some (.int z)) h locs) (hK : cells ≤ K) (hN : slots ≤ N) : own_Ends p e below s Q K N (T.setTop (mkF m pc Ls (.int z :: rest))) := by
  obtain ⟨fs, hr, hrun, hended, hW, hsame⟩ := X.leave (v := some (.int z)) (fun h => by rw [hret] at h; cases h) hlk
  exact ⟨_, _, retN X hx hret ht hd (by rw [hz]; exact hr), hrun, hended, _, _, rfl, (by subst eT; exact hQ), ⟨_, rfl⟩, hW, hsame.mono hK hN⟩
theorem own_retL (X : Stand p l e R s m args below meth c T locs cells slots) (hx : p.tables.exec = Jvm.exec) (hlk : meth.locks = false) {h : Heap} (eT : T.heap = h) {pc : Nat} {Ls : Array Slot} {z : Int64} {rest : List Value} (hret : meth.sig.returnType = some .long)
    (hd : decode c.code pc = .ok (.lreturn, 1)) (hQ : Q (some (.long z)) h locs) (hK : cells ≤ K) (hN : slots ≤ N) : own_Ends p e below s Q K N (T.setTop (mkF m pc Ls (.long z :: rest))) := by
  obtain ⟨fs, hr, hrun, hended, hW, hsame⟩ := X.leave (v := some (.long z)) (fun h => by rw [hret] at h; cases h) hlk
  exact ⟨_, _, retOut X hx hret rfl (Or.inr (Or.inl ⟨rfl, rfl, z, rfl⟩)) hd hr, hrun, hended, _, _, rfl, (by subst eT; exact hQ), ⟨_, rfl⟩, hW, hsame.mono hK hN⟩
theorem own_retA (X : Stand p l e R s m args below meth c T locs cells slots) (hx : p.tables.exec = Jvm.exec) (hlk : meth.locks = false) {h : Heap} (eT : T.heap = h) {pc : Nat} {Ls : Array Slot} {w : Value} {t : FieldType} {rest : List Value} (hw : w.isRef = true) (hret : meth.sig.returnType = some t) (ht : t.isReference = true)
    (hd : decode c.code pc = .ok (.areturn, 1)) (hQ : Q (some w) h locs) (hK : cells ≤ K) (hN : slots ≤ N) : own_Ends p e below s Q K N (T.setTop (mkF m pc Ls (w :: rest))) := by
  obtain ⟨fs, hr, hrun, hended, hW, hsame⟩ := X.leave (v := some w) (fun h => by rw [hret] at h; cases h) hlk
  exact ⟨_, _, retOut X hx hret (by cases t <;> cases w <;> first | rfl | (simp [FieldType.isReference] at ht) | (simp [Value.isRef] at hw)) (Or.inr (Or.inr (Or.inr (Or.inr ⟨rfl, ht, hw⟩)))) hd hr, hrun, hended, _, _, rfl, (by subst eT; exact hQ), ⟨_, rfl⟩, hW, hsame.mono hK hN⟩

theorem own_neg1 : (-1 : Int32).toInt = -1 := rfl
end OwnKit
theorem own_selPriv {s : State} {args args' : Array Value} {y : MethodName} {n : Nat} (wi : (Cond.instantiable y.cls n).before args s = true) (wp : (Cond.privateMethod y).before args' s = true) (wm : (Cond.instanceMethod y).before args s = true) (hy : y.cls ≠ "java/lang/invoke/MethodHandle" ∧ y.cls ≠ "java/lang/invoke/VarHandle") : (Cond.selects y.cls y y).before args s = true := by
  obtain ⟨c, k, h1, h2, h3, h4, -⟩ := Cond.instantiable_spec wi
  exact selects_self_of_private h1 h2 (Bool.or_eq_false_iff.mp h4).1 (Cond.privateMethod_at wp) wm hy
section OwnWords
variable {args : Array Value} {s : State} {t : Term} {x : Addr} {C n d : String} {cl : Cell} {ty : FieldType}
theorem own_evI {k : Int32} (h : (Cond.eq t (.int k)).value args s none s [] = some true) : t.eval args s none [] s = some (.int k) := by
  obtain ⟨y, z, h1, h2, h3, -⟩ := cmp_v (Or.inl h)
  have h2' : z = .int k := (Option.some.inj h2).symm
  subst h2'
  cases y with
  | int v =>
    have q : v = k := by simpa [Cond.value, h1, Term.eval] using h
    rw [h1, q]
  | _ => simp [Kin, Value.isRef] at h3
theorem own_fldS {k : Int32} (ht : t.eval args s none [] s = some (.ref x)) (h : (Cond.eq (.field t C n d) (.int k)).value args s none s [] = some true) : Fld s s.heap x C n d (.int k) :=
  Fld.start ((fld_at ht).symm.trans (own_evI h))
theorem own_lenEv {k : Int32} (ev : t.eval args s none [] s = some (.ref x)) (A : Arr s s.heap x cl ty) (h : (Cond.eq (.length t) (.int k)).value args s none s [] = some true) : cl.slots.size.toInt32 = k ∧ cl.slots.size < 2 ^ 31 := by
  have e := own_evI h
  have hat := A.fin (Vm.Alike.refl _)
  simp only [Term.eval, ev, hat, Option.bind_eq_bind, Option.bind_some] at e
  split at e
  · rename_i hlt
    exact ⟨Value.int.inj (Option.some.inj e), hlt⟩
  · cases e
theorem own_len256 (ev : t.eval args s none [] s = some (.ref x)) (A : Arr s s.heap x cl ty) (h : (Cond.eq (.length t) (.int 256)).value args s none s [] = some true) : cl.slots.size = 256 := by
  obtain ⟨h1, h2⟩ := own_lenEv ev A h
  have q := len_toInt h2
  rw [h1] at q
  have q' : (256 : Int32).toInt = 256 := rfl
  omega
theorem own_cacheEl {K : String} {E : Jvm.Cond} (ev : (Term.static K n d).eval args s none [] s = some (.ref x)) (A : Arr s s.heap x cl ty) (hsz : cl.slots.size = 256) (h : (Cond.all (.static K n d) (.and (.exactly (.elem (.static K n d) (.index 0)) C) E)).value args s none s [] = some true) : ∀ j, j < 256 → ∃ b, cl.slots[j]? = some (.ref b) ∧ Exa s s.heap b C := by
  intro j hj
  have hat := A.fin (Vm.Alike.refl _)
  obtain ⟨h1, -⟩ := and_e (Cond.all_elim ev hat h j (by rw [hsz]; exact hj))
  obtain ⟨b, eb⟩ := exa_v h1
  have evj : (Term.static K n d).eval args s none [j] s = some (.ref x) := ev
  have q := (elem_in eb evj (Term.index_eval j) A.1).2
  rw [show j.toInt32 = Int32.ofNat j from rfl, Int32.toNatClampNeg_ofNat_of_lt (by omega)] at q
  exact ⟨b, q, exa_at eb h1⟩
theorem own_elemI {i k : Int32} (ev : t.eval args s none [] s = some (.ref x)) (A : Arr s s.heap x cl ty) (h : (Cond.eq (.elem t (.int i)) (.int k)).value args s none s [] = some true) : ¬ (i < 0 ∨ cl.slots.size ≤ i.toNatClampNeg) ∧ cl.slots[i.toNatClampNeg]? = some (.int k) :=
  elem_in (own_evI h) ev (Term.int_eval i) A.1
end OwnWords

theorem own_d_jdk_33_40_0 : decode jdk_33_method_40_code 0 = .ok (.iload_n 0, 1) := by decide +kernel
theorem own_d_jdk_33_40_1 : decode jdk_33_method_40_code 1 = .ok (.iload_n 1, 1) := by decide +kernel
theorem own_d_jdk_33_40_2 : decode jdk_33_method_40_code 2 = .ok (.if_icmp .ge 7, 3) := by decide +kernel
theorem own_d_jdk_33_40_5 : decode jdk_33_method_40_code 5 = .ok (.iconst (-1), 1) := by decide +kernel
theorem own_d_jdk_33_40_6 : decode jdk_33_method_40_code 6 = .ok (.goto 13, 3) := by decide +kernel
theorem own_d_jdk_33_40_9 : decode jdk_33_method_40_code 9 = .ok (.iload_n 0, 1) := by decide +kernel
theorem own_d_jdk_33_40_10 : decode jdk_33_method_40_code 10 = .ok (.iload_n 1, 1) := by decide +kernel
theorem own_d_jdk_33_40_11 : decode jdk_33_method_40_code 11 = .ok (.if_icmp .ne 7, 3) := by decide +kernel
theorem own_d_jdk_33_40_14 : decode jdk_33_method_40_code 14 = .ok (.iconst 0, 1) := by decide +kernel
theorem own_d_jdk_33_40_15 : decode jdk_33_method_40_code 15 = .ok (.goto 4, 3) := by decide +kernel
theorem own_d_jdk_33_40_18 : decode jdk_33_method_40_code 18 = .ok (.iconst 1, 1) := by decide +kernel
theorem own_d_jdk_33_40_19 : decode jdk_33_method_40_code 19 = .ok (.ireturn, 1) := by decide +kernel
theorem own_d_method_2_0 : decode method_2_code 0 = .ok (.iload_n 0, 1) := by decide +kernel
theorem own_d_method_2_1 : decode method_2_code 1 = .ok (.iconst 3, 1) := by decide +kernel
theorem own_d_method_2_2 : decode method_2_code 2 = .ok (.iand, 1) := by decide +kernel
theorem own_d_method_2_3 : decode method_2_code 3 = .ok (.istore_n 2, 1) := by decide +kernel
theorem own_d_method_2_4 : decode method_2_code 4 = .ok (.iload_n 2, 1) := by decide +kernel
theorem own_d_method_2_5 : decode method_2_code 5 = .ok (.ifCond .ne 6, 3) := by decide +kernel
theorem own_d_method_2_8 : decode method_2_code 8 = .ok (.bipush 13, 2) := by decide +kernel
theorem own_d_method_2_10 : decode method_2_code 10 = .ok (.ireturn, 1) := by decide +kernel
theorem own_d_method_2_11 : decode method_2_code 11 = .ok (.iload_n 2, 1) := by decide +kernel
theorem own_d_method_2_12 : decode method_2_code 12 = .ok (.iconst 1, 1) := by decide +kernel
theorem own_d_method_2_13 : decode method_2_code 13 = .ok (.if_icmp .ne 6, 3) := by decide +kernel
theorem own_d_method_2_16 : decode method_2_code 16 = .ok (.bipush 10, 2) := by decide +kernel
theorem own_d_method_2_18 : decode method_2_code 18 = .ok (.ireturn, 1) := by decide +kernel
theorem own_d_method_2_19 : decode method_2_code 19 = .ok (.iload_n 1, 1) := by decide +kernel
theorem own_d_method_2_20 : decode method_2_code 20 = .ok (.ireturn, 1) := by decide +kernel
theorem own_d_method_3_0 : decode method_3_code 0 = .ok (.iload_n 1, 1) := by decide +kernel
theorem own_d_method_3_1 : decode method_3_code 1 = .ok (.bipush 13, 2) := by decide +kernel
theorem own_d_method_3_3 : decode method_3_code 3 = .ok (.if_icmp .ne 5, 3) := by decide +kernel
theorem own_d_method_3_6 : decode method_3_code 6 = .ok (.iconst 1, 1) := by decide +kernel
theorem own_d_method_3_7 : decode method_3_code 7 = .ok (.ireturn, 1) := by decide +kernel
theorem own_d_method_3_8 : decode method_3_code 8 = .ok (.iload_n 1, 1) := by decide +kernel
theorem own_d_method_3_9 : decode method_3_code 9 = .ok (.bipush 10, 2) := by decide +kernel
theorem own_d_method_3_11 : decode method_3_code 11 = .ok (.if_icmp .ne 13, 3) := by decide +kernel
theorem own_d_method_3_14 : decode method_3_code 14 = .ok (.iload_n 0, 1) := by decide +kernel
theorem own_d_method_3_15 : decode method_3_code 15 = .ok (.ifCond .eq 7, 3) := by decide +kernel
theorem own_d_method_3_18 : decode method_3_code 18 = .ok (.iconst 0, 1) := by decide +kernel
theorem own_d_method_3_19 : decode method_3_code 19 = .ok (.goto 4, 3) := by decide +kernel
theorem own_d_method_3_22 : decode method_3_code 22 = .ok (.iconst 1, 1) := by decide +kernel
theorem own_d_method_3_23 : decode method_3_code 23 = .ok (.ireturn, 1) := by decide +kernel
theorem own_d_method_3_24 : decode method_3_code 24 = .ok (.iconst 0, 1) := by decide +kernel
theorem own_d_method_3_25 : decode method_3_code 25 = .ok (.ireturn, 1) := by decide +kernel
theorem own_d_method_4_0 : decode method_4_code 0 = .ok (.iload_n 1, 1) := by decide +kernel
theorem own_d_method_4_1 : decode method_4_code 1 = .ok (.bipush 13, 2) := by decide +kernel
theorem own_d_method_4_3 : decode method_4_code 3 = .ok (.if_icmp .eq 9, 3) := by decide +kernel
theorem own_d_method_4_6 : decode method_4_code 6 = .ok (.iload_n 1, 1) := by decide +kernel
theorem own_d_method_4_7 : decode method_4_code 7 = .ok (.bipush 10, 2) := by decide +kernel
theorem own_d_method_4_9 : decode method_4_code 9 = .ok (.if_icmp .ne 5, 3) := by decide +kernel
theorem own_d_method_4_12 : decode method_4_code 12 = .ok (.iconst 1, 1) := by decide +kernel
theorem own_d_method_4_13 : decode method_4_code 13 = .ok (.ireturn, 1) := by decide +kernel
theorem own_d_method_4_14 : decode method_4_code 14 = .ok (.iload_n 0, 1) := by decide +kernel
theorem own_d_method_4_15 : decode method_4_code 15 = .ok (.iconst 1, 1) := by decide +kernel
theorem own_d_method_4_16 : decode method_4_code 16 = .ok (.iadd, 1) := by decide +kernel
theorem own_d_method_4_17 : decode method_4_code 17 = .ok (.ireturn, 1) := by decide +kernel
theorem own_d_prog_53_10_0 : decode prog_53_method_10_code 0 = .ok (.iload_n 1, 1) := by decide +kernel
theorem own_d_prog_53_10_1 : decode prog_53_method_10_code 1 = .ok (.bipush 13, 2) := by decide +kernel
theorem own_d_prog_53_10_3 : decode prog_53_method_10_code 3 = .ok (.if_icmp .eq 9, 3) := by decide +kernel
theorem own_d_prog_53_10_6 : decode prog_53_method_10_code 6 = .ok (.iload_n 1, 1) := by decide +kernel
theorem own_d_prog_53_10_7 : decode prog_53_method_10_code 7 = .ok (.bipush 10, 2) := by decide +kernel
theorem own_d_prog_53_10_9 : decode prog_53_method_10_code 9 = .ok (.if_icmp .ne 34, 3) := by decide +kernel
theorem own_d_prog_53_10_12 : decode prog_53_method_10_code 12 = .ok (.iload_n 1, 1) := by decide +kernel
theorem own_d_prog_53_10_13 : decode prog_53_method_10_code 13 = .ok (.bipush 13, 2) := by decide +kernel
theorem own_d_prog_53_10_15 : decode prog_53_method_10_code 15 = .ok (.if_icmp .eq 10, 3) := by decide +kernel
theorem own_d_prog_53_10_18 : decode prog_53_method_10_code 18 = .ok (.aload_n 0, 1) := by decide +kernel
theorem own_d_prog_53_10_19 : decode prog_53_method_10_code 19 = .ok (.getfield 36, 3) := by decide +kernel
theorem own_d_prog_53_10_22 : decode prog_53_method_10_code 22 = .ok (.ifCond .ne 13, 3) := by decide +kernel
theorem own_d_prog_53_10_25 : decode prog_53_method_10_code 25 = .ok (.aload_n 0, 1) := by decide +kernel
theorem own_d_prog_53_10_26 : decode prog_53_method_10_code 26 = .ok (.dup, 1) := by decide +kernel
theorem own_d_prog_53_10_27 : decode prog_53_method_10_code 27 = .ok (.getfield 23, 3) := by decide +kernel
theorem own_d_prog_53_10_30 : decode prog_53_method_10_code 30 = .ok (.iconst 1, 1) := by decide +kernel
theorem own_d_prog_53_10_31 : decode prog_53_method_10_code 31 = .ok (.iadd, 1) := by decide +kernel
theorem own_d_prog_53_10_32 : decode prog_53_method_10_code 32 = .ok (.putfield 23, 3) := by decide +kernel
theorem own_d_prog_53_10_35 : decode prog_53_method_10_code 35 = .ok (.aload_n 0, 1) := by decide +kernel
theorem own_d_prog_53_10_36 : decode prog_53_method_10_code 36 = .ok (.iconst 1, 1) := by decide +kernel
theorem own_d_prog_53_10_37 : decode prog_53_method_10_code 37 = .ok (.putfield 26, 3) := by decide +kernel
theorem own_d_prog_53_10_40 : decode prog_53_method_10_code 40 = .ok (.goto 13, 3) := by decide +kernel
theorem own_d_prog_53_10_43 : decode prog_53_method_10_code 43 = .ok (.aload_n 0, 1) := by decide +kernel
theorem own_d_prog_53_10_44 : decode prog_53_method_10_code 44 = .ok (.dup, 1) := by decide +kernel
theorem own_d_prog_53_10_45 : decode prog_53_method_10_code 45 = .ok (.getfield 26, 3) := by decide +kernel
theorem own_d_prog_53_10_48 : decode prog_53_method_10_code 48 = .ok (.iconst 1, 1) := by decide +kernel
theorem own_d_prog_53_10_49 : decode prog_53_method_10_code 49 = .ok (.iadd, 1) := by decide +kernel
theorem own_d_prog_53_10_50 : decode prog_53_method_10_code 50 = .ok (.putfield 26, 3) := by decide +kernel
theorem own_d_prog_53_10_53 : decode prog_53_method_10_code 53 = .ok (.aload_n 0, 1) := by decide +kernel
theorem own_d_prog_53_10_54 : decode prog_53_method_10_code 54 = .ok (.iload_n 1, 1) := by decide +kernel
theorem own_d_prog_53_10_55 : decode prog_53_method_10_code 55 = .ok (.bipush 13, 2) := by decide +kernel
theorem own_d_prog_53_10_57 : decode prog_53_method_10_code 57 = .ok (.if_icmp .ne 7, 3) := by decide +kernel
theorem own_d_prog_53_10_60 : decode prog_53_method_10_code 60 = .ok (.iconst 1, 1) := by decide +kernel
theorem own_d_prog_53_10_61 : decode prog_53_method_10_code 61 = .ok (.goto 4, 3) := by decide +kernel
theorem own_d_prog_53_10_64 : decode prog_53_method_10_code 64 = .ok (.iconst 0, 1) := by decide +kernel
theorem own_d_prog_53_10_65 : decode prog_53_method_10_code 65 = .ok (.putfield 36, 3) := by decide +kernel
theorem own_d_prog_53_10_68 : decode prog_53_method_10_code 68 = .ok (.return_, 1) := by decide +kernel
theorem own_d_prog_53_1_0 : decode prog_53_method_1_code 0 = .ok (.aload_n 0, 1) := by decide +kernel
theorem own_d_prog_53_1_1 : decode prog_53_method_1_code 1 = .ok (.invokespecial 1, 3) := by decide +kernel
theorem own_d_prog_53_1_4 : decode prog_53_method_1_code 4 = .ok (.aload_n 0, 1) := by decide +kernel
theorem own_d_prog_53_1_5 : decode prog_53_method_1_code 5 = .ok (.iconst (-1), 1) := by decide +kernel
theorem own_d_prog_53_1_6 : decode prog_53_method_1_code 6 = .ok (.putfield 7, 3) := by decide +kernel
theorem own_d_prog_53_1_9 : decode prog_53_method_1_code 9 = .ok (.aload_n 0, 1) := by decide +kernel
theorem own_d_prog_53_1_10 : decode prog_53_method_1_code 10 = .ok (.sipush 128, 3) := by decide +kernel
theorem own_d_prog_53_1_13 : decode prog_53_method_1_code 13 = .ok (.putfield 13, 3) := by decide +kernel
theorem own_d_prog_53_1_16 : decode prog_53_method_1_code 16 = .ok (.aload_n 0, 1) := by decide +kernel
theorem own_d_prog_53_1_17 : decode prog_53_method_1_code 17 = .ok (.sipush 191, 3) := by decide +kernel
theorem own_d_prog_53_1_20 : decode prog_53_method_1_code 20 = .ok (.putfield 16, 3) := by decide +kernel
theorem own_d_prog_53_1_23 : decode prog_53_method_1_code 23 = .ok (.aload_n 0, 1) := by decide +kernel
theorem own_d_prog_53_1_24 : decode prog_53_method_1_code 24 = .ok (.aload_n 1, 1) := by decide +kernel
theorem own_d_prog_53_1_25 : decode prog_53_method_1_code 25 = .ok (.putfield 19, 3) := by decide +kernel
theorem own_d_prog_53_1_28 : decode prog_53_method_1_code 28 = .ok (.aload_n 0, 1) := by decide +kernel
theorem own_d_prog_53_1_29 : decode prog_53_method_1_code 29 = .ok (.iconst 1, 1) := by decide +kernel
theorem own_d_prog_53_1_30 : decode prog_53_method_1_code 30 = .ok (.putfield 23, 3) := by decide +kernel
theorem own_d_prog_53_1_33 : decode prog_53_method_1_code 33 = .ok (.aload_n 0, 1) := by decide +kernel
theorem own_d_prog_53_1_34 : decode prog_53_method_1_code 34 = .ok (.iconst 1, 1) := by decide +kernel
theorem own_d_prog_53_1_35 : decode prog_53_method_1_code 35 = .ok (.putfield 26, 3) := by decide +kernel
theorem own_d_prog_53_1_38 : decode prog_53_method_1_code 38 = .ok (.return_, 1) := by decide +kernel
theorem own_d_prog_53_5_0 : decode prog_53_method_5_code 0 = .ok (.aload_n 0, 1) := by decide +kernel
theorem own_d_prog_53_5_1 : decode prog_53_method_5_code 1 = .ok (.getfield 32, 3) := by decide +kernel
theorem own_d_prog_53_5_4 : decode prog_53_method_5_code 4 = .ok (.lreturn, 1) := by decide +kernel
theorem own_d_prog_53_7_0 : decode prog_53_method_7_code 0 = .ok (.aload_n 0, 1) := by decide +kernel
theorem own_d_prog_53_7_1 : decode prog_53_method_7_code 1 = .ok (.getfield 23, 3) := by decide +kernel
theorem own_d_prog_53_7_4 : decode prog_53_method_7_code 4 = .ok (.iload_n 1, 1) := by decide +kernel
theorem own_d_prog_53_7_5 : decode prog_53_method_7_code 5 = .ok (.invokestatic 47, 3) := by decide +kernel
theorem own_d_prog_53_7_8 : decode prog_53_method_7_code 8 = .ok (.istore_n 3, 1) := by decide +kernel
theorem own_d_prog_53_7_9 : decode prog_53_method_7_code 9 = .ok (.iload_n 3, 1) := by decide +kernel
theorem own_d_prog_53_7_10 : decode prog_53_method_7_code 10 = .ok (.ifCond .eq 7, 3) := by decide +kernel
theorem own_d_prog_53_7_13 : decode prog_53_method_7_code 13 = .ok (.iload_n 3, 1) := by decide +kernel
theorem own_d_prog_53_7_14 : decode prog_53_method_7_code 14 = .ok (.goto 11, 3) := by decide +kernel
theorem own_d_prog_53_7_17 : decode prog_53_method_7_code 17 = .ok (.aload_n 0, 1) := by decide +kernel
theorem own_d_prog_53_7_18 : decode prog_53_method_7_code 18 = .ok (.getfield 26, 3) := by decide +kernel
theorem own_d_prog_53_7_21 : decode prog_53_method_7_code 21 = .ok (.iload_n 2, 1) := by decide +kernel
theorem own_d_prog_53_7_22 : decode prog_53_method_7_code 22 = .ok (.invokestatic 47, 3) := by decide +kernel
theorem own_d_prog_53_7_25 : decode prog_53_method_7_code 25 = .ok (.ireturn, 1) := by decide +kernel
theorem own_d_prog_53_9_0 : decode prog_53_method_9_code 0 = .ok (.aload_n 0, 1) := by decide +kernel
theorem own_d_prog_53_9_1 : decode prog_53_method_9_code 1 = .ok (.iconst 0, 1) := by decide +kernel
theorem own_d_prog_53_9_2 : decode prog_53_method_9_code 2 = .ok (.putfield 36, 3) := by decide +kernel
theorem own_d_prog_53_9_5 : decode prog_53_method_9_code 5 = .ok (.aload_n 0, 1) := by decide +kernel
theorem own_d_prog_53_9_6 : decode prog_53_method_9_code 6 = .ok (.dup, 1) := by decide +kernel
theorem own_d_prog_53_9_7 : decode prog_53_method_9_code 7 = .ok (.getfield 32, 3) := by decide +kernel
theorem own_d_prog_53_9_10 : decode prog_53_method_9_code 10 = .ok (.iload_n 1, 1) := by decide +kernel
theorem own_d_prog_53_9_11 : decode prog_53_method_9_code 11 = .ok (.i2l, 1) := by decide +kernel
theorem own_d_prog_53_9_12 : decode prog_53_method_9_code 12 = .ok (.ladd, 1) := by decide +kernel
theorem own_d_prog_53_9_13 : decode prog_53_method_9_code 13 = .ok (.putfield 32, 3) := by decide +kernel
theorem own_d_prog_53_9_16 : decode prog_53_method_9_code 16 = .ok (.aload_n 0, 1) := by decide +kernel
theorem own_d_prog_53_9_17 : decode prog_53_method_9_code 17 = .ok (.dup, 1) := by decide +kernel
theorem own_d_prog_53_9_18 : decode prog_53_method_9_code 18 = .ok (.getfield 26, 3) := by decide +kernel
theorem own_d_prog_53_9_21 : decode prog_53_method_9_code 21 = .ok (.iload_n 1, 1) := by decide +kernel
theorem own_d_prog_53_9_22 : decode prog_53_method_9_code 22 = .ok (.iadd, 1) := by decide +kernel
theorem own_d_prog_53_9_23 : decode prog_53_method_9_code 23 = .ok (.putfield 26, 3) := by decide +kernel
theorem own_d_prog_53_9_26 : decode prog_53_method_9_code 26 = .ok (.return_, 1) := by decide +kernel
theorem own_pd0 : parseMethodDescriptor "(II)I" = some ⟨[.int, .int], some .int⟩ := by decide +kernel
theorem own_pd1 : parseMethodDescriptor "(Lcrossmarc/reading/CheckedEncoding;)V" = some ⟨[(.object "crossmarc/reading/CheckedEncoding")], none⟩ := by decide +kernel
theorem own_pd2 : parseMethodDescriptor "(I)V" = some ⟨[.int], none⟩ := by decide +kernel
theorem own_pd3 : parseMethodDescriptor "(ZI)I" = some ⟨[.boolean, .int], some .int⟩ := by decide +kernel
theorem own_pd4 : parseMethodDescriptor "()J" = some ⟨[], some .long⟩ := by decide +kernel
theorem own_pn0 : plainName "crossmarc/reading/CursorPassPinLaw" = true := by first | (simp [plainName, overriddenIn]; done) | decide +kernel
theorem own_pn1 : plainName "crossmarc/reading/Cursor" = true := by first | (simp [plainName, overriddenIn]; done) | decide +kernel
theorem own_pn2 : plainName "java/lang/Integer" = true := by first | (simp [plainName, overriddenIn]; done) | decide +kernel
def own_nl (b u : Int32) : Int32 := if u = 13 then 1 else if u = 10 then (if b = 0 then 1 else 0) else 0
def own_nc (col u : Int32) : Int32 := if u = 13 ∨ u = 10 then 1 else col + 1
def own_pcr (u : Int32) : Int32 := if u = 13 then 1 else 0
def own_cmp (a b : Int32) : Int32 := if a < b then -1 else if a = b then 0 else 1
def own_cmp2 (ln col a b : Int32) : Int32 := if own_cmp ln a = 0 then own_cmp col b else own_cmp ln a
theorem own_cmp_self (a : Int32) : own_cmp a a = 0 := by
  unfold own_cmp; rw [if_neg (by rw [Int32.lt_iff_toInt_lt]; omega), if_pos rfl]
theorem own_cmp2_self (a b : Int32) : own_cmp2 a b a b = 0 := by
  unfold own_cmp2; rw [own_cmp_self, if_pos rfl, own_cmp_self]
def own_unit (s r : Int32) : Int32 := if (s &&& 3) = 0 then 13 else if (s &&& 3) = 1 then 10 else r

def own_Q_own_runit (Z : State) (p0 : Int32) (p1 : Int32) (h0 : Heap) (n0 : Nat) : Option Value → Heap → List Loc → Prop := fun v h L => v = some (.int (own_unit p0 p1)) ∧ Fr n0 L ∧ h = h0
theorem own_ef_own_runit (m : MethodId) (x0 : Int32) (x1 : Int32) : entryFrame m #[(.int x0), (.int x1)] 3 = mkF m 0 #[.val (.int x0), .val (.int x1), .unset] [] := by first | (simp [entryFrame, mkF, argsToLocals, Value.category]; done) | rfl
set_option maxRecDepth 65536 in
set_option maxHeartbeats 40000000 in
theorem own_runit (l : Launch) (Z : State) (a0 : Array Value) (hw : ∀ d ∈ tables_1, d.before a0 Z = true) (ws : List Jvm.Cond) (p0 : Int32) (p1 : Int32) (h0 : Heap) (n0 : Nat) :
    MetFree l (⟨"crossmarc/reading/CursorPassPinLaw", "unit", "(II)I"⟩ : MethodName) (head1 (Jvm.Cond.code (⟨"crossmarc/reading/CursorPassPinLaw", "unit", "(II)I"⟩ : MethodName) method_2_code 3 (some .int) :: ws) ({ frames := 0, cells := 0, slots := 0, locals := 0 } : Room)) (fun a U => a = #[(.int p0), (.int p1)] ∧ Z.Warmed39 U.vm ∧ U.heap = h0) (fun _ _ _ _ _ => True) (fun _ U o U' => ∃ v L, o = .returned v ∧ (own_Q_own_runit Z p0 p1 h0 n0) v U'.heap L ∧ FrameEnd U o U' L ({ frames := 0, cells := 0, slots := 0, locals := 0 } : Room).cells ({ frames := 0, cells := 0, slots := 0, locals := 0 } : Room).slots) := by
  refine MetFree.of_bodySF (plainFor_of_name own_pn0) hisR ?_
  intro p e s m args below meth c s₁ Bd hml0 hP hK
  obtain ⟨rfl, hZ, hh⟩ := hP
  have hx := Bd.exec
  have hby := Bd.bytes
  have hml : c.maxLocals = 3 := hml0
  have hown : s.vm.findClass "crossmarc/reading/CursorPassPinLaw" = some m.cls := findClass_of_methodNamed Bd.named
  have hnm := (name_of_methodNamed Bd.named Bd.method).1
  have hlk : meth.locks = false := BodyLoose.notSynchronized Bd
  have X0 : Stand p l e ({ frames := 0, cells := 0, slots := 0, locals := 0 } : Room) s m #[(.int p0), (.int p1)] below meth c s₁ [] 0 0 := Stand.of_body Bd
  have e0 : s₁.heap = h0 := by rw [← hh, Bd.state]; rfl
  have N0 := Fr.nil n0
  show own_Ends p e below s (own_Q_own_runit Z p0 p1 h0 n0) ({ frames := 0, cells := 0, slots := 0, locals := 0 } : Room).cells ({ frames := 0, cells := 0, slots := 0, locals := 0 } : Room).slots _
  refine own_by (V := s₁.setTop (mkF m 0 #[.val (.int p0), .val (.int p1), .unset] [])) (fun t k => castTop (own_ef_own_runit m p0 p1) k) ?_
  refine own_by (V := s₁.setTop (mkF m 1 #[.val (.int p0), .val (.int p1), .unset] [(.int p0)])) (fun t k => XS.iloadN X0.here hx rfl (hb hby own_d_method_2_0) rfl  k) ?_
  refine own_by (V := s₁.setTop (mkF m 2 #[.val (.int p0), .val (.int p1), .unset] [(.int (3 : Int32)), (.int p0)])) (fun t k => XS.iconst X0.here hx rfl (hb hby own_d_method_2_1) k) ?_
  refine own_by (V := s₁.setTop (mkF m 3 #[.val (.int p0), .val (.int p1), .unset] [(.int (p0 &&& (3 : Int32)))])) (fun t k => XS.iand X0.here hx rfl (hb hby own_d_method_2_2) rfl k) ?_
  obtain ⟨z1, hz1⟩ : ∃ z : Int32, z = (p0 &&& (3 : Int32)) := ⟨_, rfl⟩
  rw [← hz1]
  refine own_by (V := s₁.setTop (mkF m 4 #[.val (.int p0), .val (.int p1), .val (.int z1)] [])) (fun t k => XS.istoreN X0.here hx rfl (hb hby own_d_method_2_3) rfl (l' := #[.val (.int p0), .val (.int p1), .val (.int z1)]) rfl k) ?_
  refine own_by (V := s₁.setTop (mkF m 5 #[.val (.int p0), .val (.int p1), .val (.int z1)] [(.int z1)])) (fun t k => XS.iloadN X0.here hx rfl (hb hby own_d_method_2_4) rfl  k) ?_
  by_cases hb5_2 : z1 = (0 : Int32)
  · refine own_by (V := s₁.setTop (mkF m 8 #[.val (.int p0), .val (.int p1), .val (.int z1)] [])) (fun t k => XS.ifNo X0.here hx rfl (hb hby own_d_method_2_5) rfl ((if0 _ _).trans (teq hb5_2).2) k) ?_
    refine own_by (V := s₁.setTop (mkF m 10 #[.val (.int p0), .val (.int p1), .val (.int z1)] [(.int (13 : Int32))])) (fun t k => XS.bipush X0.here hx rfl (hb hby own_d_method_2_8) k) ?_
    refine own_retI X0 hx hlk e0 Bd.returns (hb hby own_d_method_2_10) ?_ (by decide) (by decide)
    exact ⟨congrArg (fun z => some (Value.int z)) (show (13 : Int32) = (own_unit p0 p1) from by simp [own_unit, ← hz1, hb5_2]), N0, rfl⟩
  · refine own_by (V := s₁.setTop (mkF m 11 #[.val (.int p0), .val (.int p1), .val (.int z1)] [])) (fun t k => XS.ifYes X0.here hx rfl (pc0 := 5) (pc' := 11) rfl (hb hby own_d_method_2_5) rfl ((if0 _ _).trans (feq hb5_2).2) (by decide) (by decide) k) ?_
    refine own_by (V := s₁.setTop (mkF m 12 #[.val (.int p0), .val (.int p1), .val (.int z1)] [(.int z1)])) (fun t k => XS.iloadN X0.here hx rfl (hb hby own_d_method_2_11) rfl  k) ?_
    refine own_by (V := s₁.setTop (mkF m 13 #[.val (.int p0), .val (.int p1), .val (.int z1)] [(.int (1 : Int32)), (.int z1)])) (fun t k => XS.iconst X0.here hx rfl (hb hby own_d_method_2_12) k) ?_
    by_cases hb13_3 : z1 = (1 : Int32)
    · refine own_by (V := s₁.setTop (mkF m 16 #[.val (.int p0), .val (.int p1), .val (.int z1)] [])) (fun t k => XS.icmpNo X0.here hx rfl (hb hby own_d_method_2_13) rfl (teq hb13_3).2 k) ?_
      refine own_by (V := s₁.setTop (mkF m 18 #[.val (.int p0), .val (.int p1), .val (.int z1)] [(.int (10 : Int32))])) (fun t k => XS.bipush X0.here hx rfl (hb hby own_d_method_2_16) k) ?_
      refine own_retI X0 hx hlk e0 Bd.returns (hb hby own_d_method_2_18) ?_ (by decide) (by decide)
      exact ⟨congrArg (fun z => some (Value.int z)) (show (10 : Int32) = (own_unit p0 p1) from by simp [own_unit, ← hz1, hb5_2, hb13_3]), N0, rfl⟩
    · refine own_by (V := s₁.setTop (mkF m 19 #[.val (.int p0), .val (.int p1), .val (.int z1)] [])) (fun t k => XS.icmpYes X0.here hx rfl (pc0 := 13) (pc' := 19) rfl (hb hby own_d_method_2_13) rfl (feq hb13_3).2 (by decide) (by decide) k) ?_
      refine own_by (V := s₁.setTop (mkF m 20 #[.val (.int p0), .val (.int p1), .val (.int z1)] [(.int p1)])) (fun t k => XS.iloadN X0.here hx rfl (hb hby own_d_method_2_19) rfl  k) ?_
      refine own_retI X0 hx hlk e0 Bd.returns (hb hby own_d_method_2_20) ?_ (by decide) (by decide)
      exact ⟨congrArg (fun z => some (Value.int z)) (show p1 = (own_unit p0 p1) from by simp [own_unit, ← hz1, hb5_2, hb13_3]), N0, rfl⟩
def own_Q_own_rnl (Z : State) (p0 : Int32) (p1 : Int32) (h0 : Heap) (n0 : Nat) : Option Value → Heap → List Loc → Prop := fun v h L => v = some (.int (own_nl p0 p1)) ∧ Fr n0 L ∧ h = h0
theorem own_ef_own_rnl (m : MethodId) (x0 : Int32) (x1 : Int32) : entryFrame m #[(.int x0), (.int x1)] 2 = mkF m 0 #[.val (.int x0), .val (.int x1)] [] := by first | (simp [entryFrame, mkF, argsToLocals, Value.category]; done) | rfl
set_option maxRecDepth 65536 in
set_option maxHeartbeats 40000000 in
theorem own_rnl (l : Launch) (Z : State) (a0 : Array Value) (hw : ∀ d ∈ tables_1, d.before a0 Z = true) (ws : List Jvm.Cond) (p0 : Int32) (p1 : Int32) (h0 : Heap) (n0 : Nat) :
    MetFree l (⟨"crossmarc/reading/CursorPassPinLaw", "newLines", "(ZI)I"⟩ : MethodName) (head1 (Jvm.Cond.code (⟨"crossmarc/reading/CursorPassPinLaw", "newLines", "(ZI)I"⟩ : MethodName) method_3_code 2 (some .int) :: ws) ({ frames := 0, cells := 0, slots := 0, locals := 0 } : Room)) (fun a U => a = #[(.int p0), (.int p1)] ∧ Z.Warmed39 U.vm ∧ U.heap = h0) (fun _ _ _ _ _ => True) (fun _ U o U' => ∃ v L, o = .returned v ∧ (own_Q_own_rnl Z p0 p1 h0 n0) v U'.heap L ∧ FrameEnd U o U' L ({ frames := 0, cells := 0, slots := 0, locals := 0 } : Room).cells ({ frames := 0, cells := 0, slots := 0, locals := 0 } : Room).slots) := by
  refine MetFree.of_bodySF (plainFor_of_name own_pn0) hisR ?_
  intro p e s m args below meth c s₁ Bd hml0 hP hK
  obtain ⟨rfl, hZ, hh⟩ := hP
  have hx := Bd.exec
  have hby := Bd.bytes
  have hml : c.maxLocals = 2 := hml0
  have hown : s.vm.findClass "crossmarc/reading/CursorPassPinLaw" = some m.cls := findClass_of_methodNamed Bd.named
  have hnm := (name_of_methodNamed Bd.named Bd.method).1
  have hlk : meth.locks = false := BodyLoose.notSynchronized Bd
  have X0 : Stand p l e ({ frames := 0, cells := 0, slots := 0, locals := 0 } : Room) s m #[(.int p0), (.int p1)] below meth c s₁ [] 0 0 := Stand.of_body Bd
  have e0 : s₁.heap = h0 := by rw [← hh, Bd.state]; rfl
  have N0 := Fr.nil n0
  show own_Ends p e below s (own_Q_own_rnl Z p0 p1 h0 n0) ({ frames := 0, cells := 0, slots := 0, locals := 0 } : Room).cells ({ frames := 0, cells := 0, slots := 0, locals := 0 } : Room).slots _
  refine own_by (V := s₁.setTop (mkF m 0 #[.val (.int p0), .val (.int p1)] [])) (fun t k => castTop (own_ef_own_rnl m p0 p1) k) ?_
  refine own_by (V := s₁.setTop (mkF m 1 #[.val (.int p0), .val (.int p1)] [(.int p1)])) (fun t k => XS.iloadN X0.here hx rfl (hb hby own_d_method_3_0) rfl  k) ?_
  refine own_by (V := s₁.setTop (mkF m 3 #[.val (.int p0), .val (.int p1)] [(.int (13 : Int32)), (.int p1)])) (fun t k => XS.bipush X0.here hx rfl (hb hby own_d_method_3_1) k) ?_
  by_cases hb3_1 : p1 = (13 : Int32)
  · refine own_by (V := s₁.setTop (mkF m 6 #[.val (.int p0), .val (.int p1)] [])) (fun t k => XS.icmpNo X0.here hx rfl (hb hby own_d_method_3_3) rfl (teq hb3_1).2 k) ?_
    refine own_by (V := s₁.setTop (mkF m 7 #[.val (.int p0), .val (.int p1)] [(.int (1 : Int32))])) (fun t k => XS.iconst X0.here hx rfl (hb hby own_d_method_3_6) k) ?_
    refine own_retI X0 hx hlk e0 Bd.returns (hb hby own_d_method_3_7) ?_ (by decide) (by decide)
    exact ⟨congrArg (fun z => some (Value.int z)) (show (1 : Int32) = (own_nl p0 p1) from by simp [own_nl, hb3_1]), N0, rfl⟩
  · refine own_by (V := s₁.setTop (mkF m 8 #[.val (.int p0), .val (.int p1)] [])) (fun t k => XS.icmpYes X0.here hx rfl (pc0 := 3) (pc' := 8) rfl (hb hby own_d_method_3_3) rfl (feq hb3_1).2 (by decide) (by decide) k) ?_
    refine own_by (V := s₁.setTop (mkF m 9 #[.val (.int p0), .val (.int p1)] [(.int p1)])) (fun t k => XS.iloadN X0.here hx rfl (hb hby own_d_method_3_8) rfl  k) ?_
    refine own_by (V := s₁.setTop (mkF m 11 #[.val (.int p0), .val (.int p1)] [(.int (10 : Int32)), (.int p1)])) (fun t k => XS.bipush X0.here hx rfl (hb hby own_d_method_3_9) k) ?_
    by_cases hb11_2 : p1 = (10 : Int32)
    · refine own_by (V := s₁.setTop (mkF m 14 #[.val (.int p0), .val (.int p1)] [])) (fun t k => XS.icmpNo X0.here hx rfl (hb hby own_d_method_3_11) rfl (teq hb11_2).2 k) ?_
      refine own_by (V := s₁.setTop (mkF m 15 #[.val (.int p0), .val (.int p1)] [(.int p0)])) (fun t k => XS.iloadN X0.here hx rfl (hb hby own_d_method_3_14) rfl  k) ?_
      by_cases hb15_3 : p0 = (0 : Int32)
      · refine own_by (V := s₁.setTop (mkF m 22 #[.val (.int p0), .val (.int p1)] [])) (fun t k => XS.ifYes X0.here hx rfl (pc0 := 15) (pc' := 22) rfl (hb hby own_d_method_3_15) rfl ((if0 _ _).trans (teq hb15_3).1) (by decide) (by decide) k) ?_
        refine own_by (V := s₁.setTop (mkF m 23 #[.val (.int p0), .val (.int p1)] [(.int (1 : Int32))])) (fun t k => XS.iconst X0.here hx rfl (hb hby own_d_method_3_22) k) ?_
        refine own_retI X0 hx hlk e0 Bd.returns (hb hby own_d_method_3_23) ?_ (by decide) (by decide)
        exact ⟨congrArg (fun z => some (Value.int z)) (show (1 : Int32) = (own_nl p0 p1) from by simp [own_nl, hb3_1, hb11_2, hb15_3]), N0, rfl⟩
      · refine own_by (V := s₁.setTop (mkF m 18 #[.val (.int p0), .val (.int p1)] [])) (fun t k => XS.ifNo X0.here hx rfl (hb hby own_d_method_3_15) rfl ((if0 _ _).trans (feq hb15_3).1) k) ?_
        refine own_by (V := s₁.setTop (mkF m 19 #[.val (.int p0), .val (.int p1)] [(.int (0 : Int32))])) (fun t k => XS.iconst X0.here hx rfl (hb hby own_d_method_3_18) k) ?_
        refine own_by (V := s₁.setTop (mkF m 23 #[.val (.int p0), .val (.int p1)] [(.int (0 : Int32))])) (fun t k => XS.goto X0.here hx rfl (pc0 := 19) (pc' := 23) rfl (hb hby own_d_method_3_19) (by decide) (by decide) k) ?_
        refine own_retI X0 hx hlk e0 Bd.returns (hb hby own_d_method_3_23) ?_ (by decide) (by decide)
        exact ⟨congrArg (fun z => some (Value.int z)) (show (0 : Int32) = (own_nl p0 p1) from by simp [own_nl, hb3_1, hb11_2, hb15_3]), N0, rfl⟩
    · refine own_by (V := s₁.setTop (mkF m 24 #[.val (.int p0), .val (.int p1)] [])) (fun t k => XS.icmpYes X0.here hx rfl (pc0 := 11) (pc' := 24) rfl (hb hby own_d_method_3_11) rfl (feq hb11_2).2 (by decide) (by decide) k) ?_
      refine own_by (V := s₁.setTop (mkF m 25 #[.val (.int p0), .val (.int p1)] [(.int (0 : Int32))])) (fun t k => XS.iconst X0.here hx rfl (hb hby own_d_method_3_24) k) ?_
      refine own_retI X0 hx hlk e0 Bd.returns (hb hby own_d_method_3_25) ?_ (by decide) (by decide)
      exact ⟨congrArg (fun z => some (Value.int z)) (show (0 : Int32) = (own_nl p0 p1) from by simp [own_nl, hb3_1, hb11_2]), N0, rfl⟩
def own_Q_own_rnc (Z : State) (p0 : Int32) (p1 : Int32) (h0 : Heap) (n0 : Nat) : Option Value → Heap → List Loc → Prop := fun v h L => v = some (.int (own_nc p0 p1)) ∧ Fr n0 L ∧ h = h0
theorem own_ef_own_rnc (m : MethodId) (x0 : Int32) (x1 : Int32) : entryFrame m #[(.int x0), (.int x1)] 2 = mkF m 0 #[.val (.int x0), .val (.int x1)] [] := by first | (simp [entryFrame, mkF, argsToLocals, Value.category]; done) | rfl
set_option maxRecDepth 65536 in
set_option maxHeartbeats 40000000 in
theorem own_rnc (l : Launch) (Z : State) (a0 : Array Value) (hw : ∀ d ∈ tables_1, d.before a0 Z = true) (ws : List Jvm.Cond) (p0 : Int32) (p1 : Int32) (h0 : Heap) (n0 : Nat) :
    MetFree l (⟨"crossmarc/reading/CursorPassPinLaw", "nextColumn", "(II)I"⟩ : MethodName) (head1 (Jvm.Cond.code (⟨"crossmarc/reading/CursorPassPinLaw", "nextColumn", "(II)I"⟩ : MethodName) method_4_code 2 (some .int) :: ws) ({ frames := 0, cells := 0, slots := 0, locals := 0 } : Room)) (fun a U => a = #[(.int p0), (.int p1)] ∧ Z.Warmed39 U.vm ∧ U.heap = h0) (fun _ _ _ _ _ => True) (fun _ U o U' => ∃ v L, o = .returned v ∧ (own_Q_own_rnc Z p0 p1 h0 n0) v U'.heap L ∧ FrameEnd U o U' L ({ frames := 0, cells := 0, slots := 0, locals := 0 } : Room).cells ({ frames := 0, cells := 0, slots := 0, locals := 0 } : Room).slots) := by
  refine MetFree.of_bodySF (plainFor_of_name own_pn0) hisR ?_
  intro p e s m args below meth c s₁ Bd hml0 hP hK
  obtain ⟨rfl, hZ, hh⟩ := hP
  have hx := Bd.exec
  have hby := Bd.bytes
  have hml : c.maxLocals = 2 := hml0
  have hown : s.vm.findClass "crossmarc/reading/CursorPassPinLaw" = some m.cls := findClass_of_methodNamed Bd.named
  have hnm := (name_of_methodNamed Bd.named Bd.method).1
  have hlk : meth.locks = false := BodyLoose.notSynchronized Bd
  have X0 : Stand p l e ({ frames := 0, cells := 0, slots := 0, locals := 0 } : Room) s m #[(.int p0), (.int p1)] below meth c s₁ [] 0 0 := Stand.of_body Bd
  have e0 : s₁.heap = h0 := by rw [← hh, Bd.state]; rfl
  have N0 := Fr.nil n0
  show own_Ends p e below s (own_Q_own_rnc Z p0 p1 h0 n0) ({ frames := 0, cells := 0, slots := 0, locals := 0 } : Room).cells ({ frames := 0, cells := 0, slots := 0, locals := 0 } : Room).slots _
  refine own_by (V := s₁.setTop (mkF m 0 #[.val (.int p0), .val (.int p1)] [])) (fun t k => castTop (own_ef_own_rnc m p0 p1) k) ?_
  refine own_by (V := s₁.setTop (mkF m 1 #[.val (.int p0), .val (.int p1)] [(.int p1)])) (fun t k => XS.iloadN X0.here hx rfl (hb hby own_d_method_4_0) rfl  k) ?_
  refine own_by (V := s₁.setTop (mkF m 3 #[.val (.int p0), .val (.int p1)] [(.int (13 : Int32)), (.int p1)])) (fun t k => XS.bipush X0.here hx rfl (hb hby own_d_method_4_1) k) ?_
  by_cases hb3_1 : p1 = (13 : Int32)
  · refine own_by (V := s₁.setTop (mkF m 12 #[.val (.int p0), .val (.int p1)] [])) (fun t k => XS.icmpYes X0.here hx rfl (pc0 := 3) (pc' := 12) rfl (hb hby own_d_method_4_3) rfl (teq hb3_1).1 (by decide) (by decide) k) ?_
    refine own_by (V := s₁.setTop (mkF m 13 #[.val (.int p0), .val (.int p1)] [(.int (1 : Int32))])) (fun t k => XS.iconst X0.here hx rfl (hb hby own_d_method_4_12) k) ?_
    refine own_retI X0 hx hlk e0 Bd.returns (hb hby own_d_method_4_13) ?_ (by decide) (by decide)
    exact ⟨congrArg (fun z => some (Value.int z)) (show (1 : Int32) = (own_nc p0 p1) from by simp [own_nc, hb3_1]), N0, rfl⟩
  · refine own_by (V := s₁.setTop (mkF m 6 #[.val (.int p0), .val (.int p1)] [])) (fun t k => XS.icmpNo X0.here hx rfl (hb hby own_d_method_4_3) rfl (feq hb3_1).1 k) ?_
    refine own_by (V := s₁.setTop (mkF m 7 #[.val (.int p0), .val (.int p1)] [(.int p1)])) (fun t k => XS.iloadN X0.here hx rfl (hb hby own_d_method_4_6) rfl  k) ?_
    refine own_by (V := s₁.setTop (mkF m 9 #[.val (.int p0), .val (.int p1)] [(.int (10 : Int32)), (.int p1)])) (fun t k => XS.bipush X0.here hx rfl (hb hby own_d_method_4_7) k) ?_
    by_cases hb9_2 : p1 = (10 : Int32)
    · refine own_by (V := s₁.setTop (mkF m 12 #[.val (.int p0), .val (.int p1)] [])) (fun t k => XS.icmpNo X0.here hx rfl (hb hby own_d_method_4_9) rfl (teq hb9_2).2 k) ?_
      refine own_by (V := s₁.setTop (mkF m 13 #[.val (.int p0), .val (.int p1)] [(.int (1 : Int32))])) (fun t k => XS.iconst X0.here hx rfl (hb hby own_d_method_4_12) k) ?_
      refine own_retI X0 hx hlk e0 Bd.returns (hb hby own_d_method_4_13) ?_ (by decide) (by decide)
      exact ⟨congrArg (fun z => some (Value.int z)) (show (1 : Int32) = (own_nc p0 p1) from by simp [own_nc, hb3_1, hb9_2]), N0, rfl⟩
    · refine own_by (V := s₁.setTop (mkF m 14 #[.val (.int p0), .val (.int p1)] [])) (fun t k => XS.icmpYes X0.here hx rfl (pc0 := 9) (pc' := 14) rfl (hb hby own_d_method_4_9) rfl (feq hb9_2).2 (by decide) (by decide) k) ?_
      refine own_by (V := s₁.setTop (mkF m 15 #[.val (.int p0), .val (.int p1)] [(.int p0)])) (fun t k => XS.iloadN X0.here hx rfl (hb hby own_d_method_4_14) rfl  k) ?_
      refine own_by (V := s₁.setTop (mkF m 16 #[.val (.int p0), .val (.int p1)] [(.int (1 : Int32)), (.int p0)])) (fun t k => XS.iconst X0.here hx rfl (hb hby own_d_method_4_15) k) ?_
      refine own_by (V := s₁.setTop (mkF m 17 #[.val (.int p0), .val (.int p1)] [(.int (p0 + (1 : Int32)))])) (fun t k => XS.iadd X0.here hx rfl (hb hby own_d_method_4_16) rfl k) ?_
      refine own_retI X0 hx hlk e0 Bd.returns (hb hby own_d_method_4_17) ?_ (by decide) (by decide)
      exact ⟨congrArg (fun z => some (Value.int z)) (show (p0 + (1 : Int32)) = (own_nc p0 p1) from by simp [own_nc, hb3_1, hb9_2]), N0, rfl⟩
def own_Q_own_cinit (Z : State) (o0 : Addr) (o1 : Addr) (h0 : Heap) (n0 : Nat) : Option Value → Heap → List Loc → Prop := fun v h L => v = none ∧ Fr n0 L ∧ Keep h0 h [o0] ∧ Exa Z h o0 "crossmarc/reading/Cursor" ∧ Fld Z h o0 "crossmarc/reading/Cursor" "half" "I" (.int (-1 : Int32)) ∧ Fld Z h o0 "crossmarc/reading/Cursor" "low" "I" (.int (128 : Int32)) ∧ Fld Z h o0 "crossmarc/reading/Cursor" "high" "I" (.int (191 : Int32)) ∧ Fld Z h o0 "crossmarc/reading/Cursor" "encoding" "Lcrossmarc/reading/CheckedEncoding;" (.ref o1) ∧ Fld Z h o0 "crossmarc/reading/Cursor" "line" "I" (.int (1 : Int32)) ∧ Fld Z h o0 "crossmarc/reading/Cursor" "column" "I" (.int (1 : Int32)) ∧ Fld Z h o0 "crossmarc/reading/Cursor" "afterCr" "Z" (.int (0 : Int32)) ∧ Fld Z h o0 "crossmarc/reading/Cursor" "position" "J" (.long (0 : Int64))
theorem own_ef_own_cinit (m : MethodId) (x0 : Addr) (x1 : Addr) : entryFrame m #[(.ref x0), (.ref x1)] 2 = mkF m 0 #[.val (.ref x0), .val (.ref x1)] [] := by first | (simp [entryFrame, mkF, argsToLocals, Value.category]; done) | rfl
set_option maxRecDepth 65536 in
set_option maxHeartbeats 40000000 in
theorem own_cinit (l : Launch) (Z : State) (a0 : Array Value) (hw : ∀ d ∈ tables_1, d.before a0 Z = true) (ws : List Jvm.Cond) (o0 : Addr) (o1 : Addr) (h0 : Heap) (n0 : Nat) (Z0 : n0 ≤ h0.size) (g0 : n0 ≤ o0) (E0 : Exa Z h0 o0 "crossmarc/reading/Cursor") (F_half : Fld Z h0 o0 "crossmarc/reading/Cursor" "half" "I" (.int (0 : Int32))) (F_low : Fld Z h0 o0 "crossmarc/reading/Cursor" "low" "I" (.int (0 : Int32))) (F_high : Fld Z h0 o0 "crossmarc/reading/Cursor" "high" "I" (.int (0 : Int32))) (F_encoding : Fld Z h0 o0 "crossmarc/reading/Cursor" "encoding" "Lcrossmarc/reading/CheckedEncoding;" .null) (F_line : Fld Z h0 o0 "crossmarc/reading/Cursor" "line" "I" (.int (0 : Int32))) (F_column : Fld Z h0 o0 "crossmarc/reading/Cursor" "column" "I" (.int (0 : Int32))) (F_afterCr : Fld Z h0 o0 "crossmarc/reading/Cursor" "afterCr" "Z" (.int (0 : Int32))) (F_position : Fld Z h0 o0 "crossmarc/reading/Cursor" "position" "J" (.long (0 : Int64))) :
    MetFree l (⟨"crossmarc/reading/Cursor", "<init>", "(Lcrossmarc/reading/CheckedEncoding;)V"⟩ : MethodName) (head1 (Jvm.Cond.code (⟨"crossmarc/reading/Cursor", "<init>", "(Lcrossmarc/reading/CheckedEncoding;)V"⟩ : MethodName) prog_53_method_1_code 2 none :: ws) ({ frames := 1, cells := 0, slots := 0, locals := 12 } : Room)) (fun a U => a = #[(.ref o0), (.ref o1)] ∧ Z.Warmed39 U.vm ∧ U.heap = h0) (fun _ _ _ _ _ => True) (fun _ U o U' => ∃ v L, o = .returned v ∧ (own_Q_own_cinit Z o0 o1 h0 n0) v U'.heap L ∧ FrameEnd U o U' L ({ frames := 1, cells := 0, slots := 0, locals := 12 } : Room).cells ({ frames := 1, cells := 0, slots := 0, locals := 12 } : Room).slots) := by
  refine MetFree.of_bodySF (plainFor_of_name own_pn1) hisR ?_
  intro p e s m args below meth c s₁ Bd hml0 hP hK
  obtain ⟨rfl, hZ, hh⟩ := hP
  have hx := Bd.exec
  have hby := Bd.bytes
  have hml : c.maxLocals = 2 := hml0
  have hown : s.vm.findClass "crossmarc/reading/Cursor" = some m.cls := findClass_of_methodNamed Bd.named
  have hnm := (name_of_methodNamed Bd.named Bd.method).1
  have hlk : meth.locks = false := BodyLoose.notSynchronized Bd
  have X0 : Stand p l e ({ frames := 1, cells := 0, slots := 0, locals := 12 } : Room) s m #[(.ref o0), (.ref o1)] below meth c s₁ [] 0 0 := Stand.of_body Bd
  have e0 : s₁.heap = h0 := by rw [← hh, Bd.state]; rfl
  have N0 := Fr.nil n0
  show own_Ends p e below s (own_Q_own_cinit Z o0 o1 h0 n0) ({ frames := 1, cells := 0, slots := 0, locals := 12 } : Room).cells ({ frames := 1, cells := 0, slots := 0, locals := 12 } : Room).slots _
  refine own_by (V := s₁.setTop (mkF m 0 #[.val (.ref o0), .val (.ref o1)] [])) (fun t k => castTop (own_ef_own_cinit m o0 o1) k) ?_
  refine own_by (V := s₁.setTop (mkF m 1 #[.val (.ref o0), .val (.ref o1)] [(.ref o0)])) (fun t k => XS.aloadN X0.here hx rfl (hb hby own_d_prog_53_1_0) rfl rfl k) ?_
  obtain ⟨T1, X1, e1, st1⟩ := initO X0 hx hZ hown (hw _ (List.mem_of_getElem? (i := 14) rfl)) (hw _ (List.mem_of_getElem? (i := 15) rfl)) (hw _ (List.mem_of_getElem? (i := 16) rfl)) e0 (g := (mkF m 1 #[.val (.ref o0), .val (.ref o1)] [(.ref o0)])) rfl (by rw [hml]; rfl) rfl (hb hby own_d_prog_53_1_1) (by decide) (W := 0) (by show 2 * 0 + _ ≤ _; exact Nat.le_of_eq rfl) (by decide)
  refine own_by (V := T1.setTop (mkF m 4 #[.val (.ref o0), .val (.ref o1)] [])) st1 ?_
  refine own_by (V := T1.setTop (mkF m 5 #[.val (.ref o0), .val (.ref o1)] [(.ref o0)])) (fun t k => XS.aloadN X1.here hx rfl (hb hby own_d_prog_53_1_4) rfl rfl k) ?_
  refine own_by (V := T1.setTop (mkF m 6 #[.val (.ref o0), .val (.ref o1)] [(.int (-1 : Int32)), (.ref o0)])) (fun t k => XS.iconst X1.here hx rfl (hb hby own_d_prog_53_1_5) k) ?_
  obtain ⟨T2, h2, X2, e2, W2, st2⟩ := putF X1 hx hZ hown (host := "") (Or.inl (hw _ (List.mem_of_getElem? (i := 17) rfl))) Via.refl e1 F_half E0 (Or.inl (hw _ (List.mem_of_getElem? (i := 18) rfl))) (hw _ (List.mem_of_getElem? (i := 6) rfl)) (ty := .int) (by decide) rfl rfl (g := (mkF m 6 #[.val (.ref o0), .val (.ref o1)] [(.int (-1 : Int32)), (.ref o0)])) rfl rfl (hb hby own_d_prog_53_1_6)
  have N2 := Fr.snoc X2 N0 g0
  have K2 := (Keep.refl h0 [o0]).wr W2 (Or.inl (List.mem_singleton.mpr rfl))
  have Zs2 : n0 ≤ h2.size := by rw [W2.size]; exact Z0
  have f3 := E0.wr W2
  have f4 := F_half.same W2
  have f5 := F_low.other W2 (Or.inr (slot_ne (Or.inl (hw _ (List.mem_of_getElem? (i := 20) rfl))) (Or.inl (hw _ (List.mem_of_getElem? (i := 18) rfl))) (by decide) (t := .int) (t' := .int) (by decide) (by decide)))
  have f6 := F_high.other W2 (Or.inr (slot_ne (Or.inl (hw _ (List.mem_of_getElem? (i := 22) rfl))) (Or.inl (hw _ (List.mem_of_getElem? (i := 18) rfl))) (by decide) (t := .int) (t' := .int) (by decide) (by decide)))
  have f7 := F_encoding.other W2 (Or.inr (slot_ne (Or.inr (hw _ (List.mem_of_getElem? (i := 24) rfl))) (Or.inl (hw _ (List.mem_of_getElem? (i := 18) rfl))) (by decide) (t := (.object "crossmarc/reading/CheckedEncoding")) (t' := .int) (by decide) (by decide)))
  have f8 := F_line.other W2 (Or.inr (slot_ne (Or.inl (hw _ (List.mem_of_getElem? (i := 26) rfl))) (Or.inl (hw _ (List.mem_of_getElem? (i := 18) rfl))) (by decide) (t := .int) (t' := .int) (by decide) (by decide)))
  have f9 := F_column.other W2 (Or.inr (slot_ne (Or.inl (hw _ (List.mem_of_getElem? (i := 28) rfl))) (Or.inl (hw _ (List.mem_of_getElem? (i := 18) rfl))) (by decide) (t := .int) (t' := .int) (by decide) (by decide)))
  have f10 := F_afterCr.other W2 (Or.inr (slot_ne (Or.inl (hw _ (List.mem_of_getElem? (i := 35) rfl))) (Or.inl (hw _ (List.mem_of_getElem? (i := 18) rfl))) (by decide) (t := .boolean) (t' := .int) (by decide) (by decide)))
  have f11 := F_position.other W2 (Or.inr (slot_ne (Or.inl (hw _ (List.mem_of_getElem? (i := 37) rfl))) (Or.inl (hw _ (List.mem_of_getElem? (i := 18) rfl))) (by decide) (t := .long) (t' := .int) (by decide) (by decide)))
  refine own_by (V := T2.setTop (mkF m 9 #[.val (.ref o0), .val (.ref o1)] [])) st2 ?_
  refine own_by (V := T2.setTop (mkF m 10 #[.val (.ref o0), .val (.ref o1)] [(.ref o0)])) (fun t k => XS.aloadN X2.here hx rfl (hb hby own_d_prog_53_1_9) rfl rfl k) ?_
  refine own_by (V := T2.setTop (mkF m 13 #[.val (.ref o0), .val (.ref o1)] [(.int (128 : Int32)), (.ref o0)])) (fun t k => XS.sipush X2.here hx rfl (hb hby own_d_prog_53_1_10) k) ?_
  obtain ⟨T12, h12, X12, e12, W12, st12⟩ := putF X2 hx hZ hown (host := "") (Or.inl (hw _ (List.mem_of_getElem? (i := 19) rfl))) Via.refl e2 f5 f3 (Or.inl (hw _ (List.mem_of_getElem? (i := 20) rfl))) (hw _ (List.mem_of_getElem? (i := 6) rfl)) (ty := .int) (by decide) rfl rfl (g := (mkF m 13 #[.val (.ref o0), .val (.ref o1)] [(.int (128 : Int32)), (.ref o0)])) rfl rfl (hb hby own_d_prog_53_1_13)
  have N12 := Fr.snoc X12 N2 g0
  have K12 := K2.wr W12 (Or.inl (List.mem_singleton.mpr rfl))
  have Zs12 : n0 ≤ h12.size := by rw [W12.size]; exact Zs2
  have f13 := f3.wr W12
  have f14 := f4.other W12 (Or.inr (slot_ne (Or.inl (hw _ (List.mem_of_getElem? (i := 18) rfl))) (Or.inl (hw _ (List.mem_of_getElem? (i := 20) rfl))) (by decide) (t := .int) (t' := .int) (by decide) (by decide)))
  have f15 := f5.same W12
  have f16 := f6.other W12 (Or.inr (slot_ne (Or.inl (hw _ (List.mem_of_getElem? (i := 22) rfl))) (Or.inl (hw _ (List.mem_of_getElem? (i := 20) rfl))) (by decide) (t := .int) (t' := .int) (by decide) (by decide)))
  have f17 := f7.other W12 (Or.inr (slot_ne (Or.inr (hw _ (List.mem_of_getElem? (i := 24) rfl))) (Or.inl (hw _ (List.mem_of_getElem? (i := 20) rfl))) (by decide) (t := (.object "crossmarc/reading/CheckedEncoding")) (t' := .int) (by decide) (by decide)))
  have f18 := f8.other W12 (Or.inr (slot_ne (Or.inl (hw _ (List.mem_of_getElem? (i := 26) rfl))) (Or.inl (hw _ (List.mem_of_getElem? (i := 20) rfl))) (by decide) (t := .int) (t' := .int) (by decide) (by decide)))
  have f19 := f9.other W12 (Or.inr (slot_ne (Or.inl (hw _ (List.mem_of_getElem? (i := 28) rfl))) (Or.inl (hw _ (List.mem_of_getElem? (i := 20) rfl))) (by decide) (t := .int) (t' := .int) (by decide) (by decide)))
  have f20 := f10.other W12 (Or.inr (slot_ne (Or.inl (hw _ (List.mem_of_getElem? (i := 35) rfl))) (Or.inl (hw _ (List.mem_of_getElem? (i := 20) rfl))) (by decide) (t := .boolean) (t' := .int) (by decide) (by decide)))
  have f21 := f11.other W12 (Or.inr (slot_ne (Or.inl (hw _ (List.mem_of_getElem? (i := 37) rfl))) (Or.inl (hw _ (List.mem_of_getElem? (i := 20) rfl))) (by decide) (t := .long) (t' := .int) (by decide) (by decide)))
  refine own_by (V := T12.setTop (mkF m 16 #[.val (.ref o0), .val (.ref o1)] [])) st12 ?_
  refine own_by (V := T12.setTop (mkF m 17 #[.val (.ref o0), .val (.ref o1)] [(.ref o0)])) (fun t k => XS.aloadN X12.here hx rfl (hb hby own_d_prog_53_1_16) rfl rfl k) ?_
  refine own_by (V := T12.setTop (mkF m 20 #[.val (.ref o0), .val (.ref o1)] [(.int (191 : Int32)), (.ref o0)])) (fun t k => XS.sipush X12.here hx rfl (hb hby own_d_prog_53_1_17) k) ?_
  obtain ⟨T22, h22, X22, e22, W22, st22⟩ := putF X12 hx hZ hown (host := "") (Or.inl (hw _ (List.mem_of_getElem? (i := 21) rfl))) Via.refl e12 f16 f13 (Or.inl (hw _ (List.mem_of_getElem? (i := 22) rfl))) (hw _ (List.mem_of_getElem? (i := 6) rfl)) (ty := .int) (by decide) rfl rfl (g := (mkF m 20 #[.val (.ref o0), .val (.ref o1)] [(.int (191 : Int32)), (.ref o0)])) rfl rfl (hb hby own_d_prog_53_1_20)
  have N22 := Fr.snoc X22 N12 g0
  have K22 := K12.wr W22 (Or.inl (List.mem_singleton.mpr rfl))
  have Zs22 : n0 ≤ h22.size := by rw [W22.size]; exact Zs12
  have f23 := f13.wr W22
  have f24 := f14.other W22 (Or.inr (slot_ne (Or.inl (hw _ (List.mem_of_getElem? (i := 18) rfl))) (Or.inl (hw _ (List.mem_of_getElem? (i := 22) rfl))) (by decide) (t := .int) (t' := .int) (by decide) (by decide)))
  have f25 := f15.other W22 (Or.inr (slot_ne (Or.inl (hw _ (List.mem_of_getElem? (i := 20) rfl))) (Or.inl (hw _ (List.mem_of_getElem? (i := 22) rfl))) (by decide) (t := .int) (t' := .int) (by decide) (by decide)))
  have f26 := f16.same W22
  have f27 := f17.other W22 (Or.inr (slot_ne (Or.inr (hw _ (List.mem_of_getElem? (i := 24) rfl))) (Or.inl (hw _ (List.mem_of_getElem? (i := 22) rfl))) (by decide) (t := (.object "crossmarc/reading/CheckedEncoding")) (t' := .int) (by decide) (by decide)))
  have f28 := f18.other W22 (Or.inr (slot_ne (Or.inl (hw _ (List.mem_of_getElem? (i := 26) rfl))) (Or.inl (hw _ (List.mem_of_getElem? (i := 22) rfl))) (by decide) (t := .int) (t' := .int) (by decide) (by decide)))
  have f29 := f19.other W22 (Or.inr (slot_ne (Or.inl (hw _ (List.mem_of_getElem? (i := 28) rfl))) (Or.inl (hw _ (List.mem_of_getElem? (i := 22) rfl))) (by decide) (t := .int) (t' := .int) (by decide) (by decide)))
  have f30 := f20.other W22 (Or.inr (slot_ne (Or.inl (hw _ (List.mem_of_getElem? (i := 35) rfl))) (Or.inl (hw _ (List.mem_of_getElem? (i := 22) rfl))) (by decide) (t := .boolean) (t' := .int) (by decide) (by decide)))
  have f31 := f21.other W22 (Or.inr (slot_ne (Or.inl (hw _ (List.mem_of_getElem? (i := 37) rfl))) (Or.inl (hw _ (List.mem_of_getElem? (i := 22) rfl))) (by decide) (t := .long) (t' := .int) (by decide) (by decide)))
  refine own_by (V := T22.setTop (mkF m 23 #[.val (.ref o0), .val (.ref o1)] [])) st22 ?_
  refine own_by (V := T22.setTop (mkF m 24 #[.val (.ref o0), .val (.ref o1)] [(.ref o0)])) (fun t k => XS.aloadN X22.here hx rfl (hb hby own_d_prog_53_1_23) rfl rfl k) ?_
  refine own_by (V := T22.setTop (mkF m 25 #[.val (.ref o0), .val (.ref o1)] [(.ref o1), (.ref o0)])) (fun t k => XS.aloadN X22.here hx rfl (hb hby own_d_prog_53_1_24) rfl rfl k) ?_
  obtain ⟨T32, h32, X32, e32, W32, st32⟩ := putF X22 hx hZ hown (host := "") (Or.inl (hw _ (List.mem_of_getElem? (i := 23) rfl))) Via.refl e22 f27 f23 (Or.inr ⟨(hw _ (List.mem_of_getElem? (i := 24) rfl)), rfl, hnm⟩) (hw _ (List.mem_of_getElem? (i := 6) rfl)) (ty := (.object "crossmarc/reading/CheckedEncoding")) (by decide) rfl rfl (g := (mkF m 25 #[.val (.ref o0), .val (.ref o1)] [(.ref o1), (.ref o0)])) rfl rfl (hb hby own_d_prog_53_1_25)
  have N32 := Fr.snoc X32 N22 g0
  have K32 := K22.wr W32 (Or.inl (List.mem_singleton.mpr rfl))
  have Zs32 : n0 ≤ h32.size := by rw [W32.size]; exact Zs22
  have f33 := f23.wr W32
  have f34 := f24.other W32 (Or.inr (slot_ne (Or.inl (hw _ (List.mem_of_getElem? (i := 18) rfl))) (Or.inr (hw _ (List.mem_of_getElem? (i := 24) rfl))) (by decide) (t := .int) (t' := (.object "crossmarc/reading/CheckedEncoding")) (by decide) (by decide)))
  have f35 := f25.other W32 (Or.inr (slot_ne (Or.inl (hw _ (List.mem_of_getElem? (i := 20) rfl))) (Or.inr (hw _ (List.mem_of_getElem? (i := 24) rfl))) (by decide) (t := .int) (t' := (.object "crossmarc/reading/CheckedEncoding")) (by decide) (by decide)))
  have f36 := f26.other W32 (Or.inr (slot_ne (Or.inl (hw _ (List.mem_of_getElem? (i := 22) rfl))) (Or.inr (hw _ (List.mem_of_getElem? (i := 24) rfl))) (by decide) (t := .int) (t' := (.object "crossmarc/reading/CheckedEncoding")) (by decide) (by decide)))
  have f37 := f27.same W32
  have f38 := f28.other W32 (Or.inr (slot_ne (Or.inl (hw _ (List.mem_of_getElem? (i := 26) rfl))) (Or.inr (hw _ (List.mem_of_getElem? (i := 24) rfl))) (by decide) (t := .int) (t' := (.object "crossmarc/reading/CheckedEncoding")) (by decide) (by decide)))
  have f39 := f29.other W32 (Or.inr (slot_ne (Or.inl (hw _ (List.mem_of_getElem? (i := 28) rfl))) (Or.inr (hw _ (List.mem_of_getElem? (i := 24) rfl))) (by decide) (t := .int) (t' := (.object "crossmarc/reading/CheckedEncoding")) (by decide) (by decide)))
  have f40 := f30.other W32 (Or.inr (slot_ne (Or.inl (hw _ (List.mem_of_getElem? (i := 35) rfl))) (Or.inr (hw _ (List.mem_of_getElem? (i := 24) rfl))) (by decide) (t := .boolean) (t' := (.object "crossmarc/reading/CheckedEncoding")) (by decide) (by decide)))
  have f41 := f31.other W32 (Or.inr (slot_ne (Or.inl (hw _ (List.mem_of_getElem? (i := 37) rfl))) (Or.inr (hw _ (List.mem_of_getElem? (i := 24) rfl))) (by decide) (t := .long) (t' := (.object "crossmarc/reading/CheckedEncoding")) (by decide) (by decide)))
  refine own_by (V := T32.setTop (mkF m 28 #[.val (.ref o0), .val (.ref o1)] [])) st32 ?_
  refine own_by (V := T32.setTop (mkF m 29 #[.val (.ref o0), .val (.ref o1)] [(.ref o0)])) (fun t k => XS.aloadN X32.here hx rfl (hb hby own_d_prog_53_1_28) rfl rfl k) ?_
  refine own_by (V := T32.setTop (mkF m 30 #[.val (.ref o0), .val (.ref o1)] [(.int (1 : Int32)), (.ref o0)])) (fun t k => XS.iconst X32.here hx rfl (hb hby own_d_prog_53_1_29) k) ?_
  obtain ⟨T42, h42, X42, e42, W42, st42⟩ := putF X32 hx hZ hown (host := "") (Or.inl (hw _ (List.mem_of_getElem? (i := 25) rfl))) Via.refl e32 f38 f33 (Or.inl (hw _ (List.mem_of_getElem? (i := 26) rfl))) (hw _ (List.mem_of_getElem? (i := 6) rfl)) (ty := .int) (by decide) rfl rfl (g := (mkF m 30 #[.val (.ref o0), .val (.ref o1)] [(.int (1 : Int32)), (.ref o0)])) rfl rfl (hb hby own_d_prog_53_1_30)
  have N42 := Fr.snoc X42 N32 g0
  have K42 := K32.wr W42 (Or.inl (List.mem_singleton.mpr rfl))
  have Zs42 : n0 ≤ h42.size := by rw [W42.size]; exact Zs32
  have f43 := f33.wr W42
  have f44 := f34.other W42 (Or.inr (slot_ne (Or.inl (hw _ (List.mem_of_getElem? (i := 18) rfl))) (Or.inl (hw _ (List.mem_of_getElem? (i := 26) rfl))) (by decide) (t := .int) (t' := .int) (by decide) (by decide)))
  have f45 := f35.other W42 (Or.inr (slot_ne (Or.inl (hw _ (List.mem_of_getElem? (i := 20) rfl))) (Or.inl (hw _ (List.mem_of_getElem? (i := 26) rfl))) (by decide) (t := .int) (t' := .int) (by decide) (by decide)))
  have f46 := f36.other W42 (Or.inr (slot_ne (Or.inl (hw _ (List.mem_of_getElem? (i := 22) rfl))) (Or.inl (hw _ (List.mem_of_getElem? (i := 26) rfl))) (by decide) (t := .int) (t' := .int) (by decide) (by decide)))
  have f47 := f37.other W42 (Or.inr (slot_ne (Or.inr (hw _ (List.mem_of_getElem? (i := 24) rfl))) (Or.inl (hw _ (List.mem_of_getElem? (i := 26) rfl))) (by decide) (t := (.object "crossmarc/reading/CheckedEncoding")) (t' := .int) (by decide) (by decide)))
  have f48 := f38.same W42
  have f49 := f39.other W42 (Or.inr (slot_ne (Or.inl (hw _ (List.mem_of_getElem? (i := 28) rfl))) (Or.inl (hw _ (List.mem_of_getElem? (i := 26) rfl))) (by decide) (t := .int) (t' := .int) (by decide) (by decide)))
  have f50 := f40.other W42 (Or.inr (slot_ne (Or.inl (hw _ (List.mem_of_getElem? (i := 35) rfl))) (Or.inl (hw _ (List.mem_of_getElem? (i := 26) rfl))) (by decide) (t := .boolean) (t' := .int) (by decide) (by decide)))
  have f51 := f41.other W42 (Or.inr (slot_ne (Or.inl (hw _ (List.mem_of_getElem? (i := 37) rfl))) (Or.inl (hw _ (List.mem_of_getElem? (i := 26) rfl))) (by decide) (t := .long) (t' := .int) (by decide) (by decide)))
  refine own_by (V := T42.setTop (mkF m 33 #[.val (.ref o0), .val (.ref o1)] [])) st42 ?_
  refine own_by (V := T42.setTop (mkF m 34 #[.val (.ref o0), .val (.ref o1)] [(.ref o0)])) (fun t k => XS.aloadN X42.here hx rfl (hb hby own_d_prog_53_1_33) rfl rfl k) ?_
  refine own_by (V := T42.setTop (mkF m 35 #[.val (.ref o0), .val (.ref o1)] [(.int (1 : Int32)), (.ref o0)])) (fun t k => XS.iconst X42.here hx rfl (hb hby own_d_prog_53_1_34) k) ?_
  obtain ⟨T52, h52, X52, e52, W52, st52⟩ := putF X42 hx hZ hown (host := "") (Or.inl (hw _ (List.mem_of_getElem? (i := 27) rfl))) Via.refl e42 f49 f43 (Or.inl (hw _ (List.mem_of_getElem? (i := 28) rfl))) (hw _ (List.mem_of_getElem? (i := 6) rfl)) (ty := .int) (by decide) rfl rfl (g := (mkF m 35 #[.val (.ref o0), .val (.ref o1)] [(.int (1 : Int32)), (.ref o0)])) rfl rfl (hb hby own_d_prog_53_1_35)
  have N52 := Fr.snoc X52 N42 g0
  have K52 := K42.wr W52 (Or.inl (List.mem_singleton.mpr rfl))
  have Zs52 : n0 ≤ h52.size := by rw [W52.size]; exact Zs42
  have f53 := f43.wr W52
  have f54 := f44.other W52 (Or.inr (slot_ne (Or.inl (hw _ (List.mem_of_getElem? (i := 18) rfl))) (Or.inl (hw _ (List.mem_of_getElem? (i := 28) rfl))) (by decide) (t := .int) (t' := .int) (by decide) (by decide)))
  have f55 := f45.other W52 (Or.inr (slot_ne (Or.inl (hw _ (List.mem_of_getElem? (i := 20) rfl))) (Or.inl (hw _ (List.mem_of_getElem? (i := 28) rfl))) (by decide) (t := .int) (t' := .int) (by decide) (by decide)))
  have f56 := f46.other W52 (Or.inr (slot_ne (Or.inl (hw _ (List.mem_of_getElem? (i := 22) rfl))) (Or.inl (hw _ (List.mem_of_getElem? (i := 28) rfl))) (by decide) (t := .int) (t' := .int) (by decide) (by decide)))
  have f57 := f47.other W52 (Or.inr (slot_ne (Or.inr (hw _ (List.mem_of_getElem? (i := 24) rfl))) (Or.inl (hw _ (List.mem_of_getElem? (i := 28) rfl))) (by decide) (t := (.object "crossmarc/reading/CheckedEncoding")) (t' := .int) (by decide) (by decide)))
  have f58 := f48.other W52 (Or.inr (slot_ne (Or.inl (hw _ (List.mem_of_getElem? (i := 26) rfl))) (Or.inl (hw _ (List.mem_of_getElem? (i := 28) rfl))) (by decide) (t := .int) (t' := .int) (by decide) (by decide)))
  have f59 := f49.same W52
  have f60 := f50.other W52 (Or.inr (slot_ne (Or.inl (hw _ (List.mem_of_getElem? (i := 35) rfl))) (Or.inl (hw _ (List.mem_of_getElem? (i := 28) rfl))) (by decide) (t := .boolean) (t' := .int) (by decide) (by decide)))
  have f61 := f51.other W52 (Or.inr (slot_ne (Or.inl (hw _ (List.mem_of_getElem? (i := 37) rfl))) (Or.inl (hw _ (List.mem_of_getElem? (i := 28) rfl))) (by decide) (t := .long) (t' := .int) (by decide) (by decide)))
  refine own_by (V := T52.setTop (mkF m 38 #[.val (.ref o0), .val (.ref o1)] [])) st52 ?_
  refine own_ret0 X52 hx hlk e52 Bd.returns (hb hby own_d_prog_53_1_38) ?_ (by decide) (by decide)
  exact ⟨rfl, N52, K52, f53, f54, f55, f56, f57, f58, f59, f60, f61⟩
def own_Q_own_ascii (Z : State) (o0 : Addr) (p1 : Int32) (u_half : Int32) (u_low : Int32) (u_high : Int32) (u_encoding : Value) (u_line : Int32) (u_column : Int32) (u_afterCr : Int32) (u_position : Int64) (h0 : Heap) (n0 : Nat) : Option Value → Heap → List Loc → Prop := fun v h L => v = none ∧ Fr n0 L ∧ Keep h0 h [o0] ∧ Exa Z h o0 "crossmarc/reading/Cursor" ∧ Fld Z h o0 "crossmarc/reading/Cursor" "half" "I" (.int u_half) ∧ Fld Z h o0 "crossmarc/reading/Cursor" "low" "I" (.int u_low) ∧ Fld Z h o0 "crossmarc/reading/Cursor" "high" "I" (.int u_high) ∧ Fld Z h o0 "crossmarc/reading/Cursor" "encoding" "Lcrossmarc/reading/CheckedEncoding;" u_encoding ∧ Fld Z h o0 "crossmarc/reading/Cursor" "line" "I" (.int u_line) ∧ Fld Z h o0 "crossmarc/reading/Cursor" "column" "I" (.int (u_column + p1)) ∧ Fld Z h o0 "crossmarc/reading/Cursor" "afterCr" "Z" (.int (0 : Int32)) ∧ Fld Z h o0 "crossmarc/reading/Cursor" "position" "J" (.long (u_position + (p1.toInt64)))
theorem own_ef_own_ascii (m : MethodId) (x0 : Addr) (x1 : Int32) : entryFrame m #[(.ref x0), (.int x1)] 2 = mkF m 0 #[.val (.ref x0), .val (.int x1)] [] := by first | (simp [entryFrame, mkF, argsToLocals, Value.category]; done) | rfl
set_option maxRecDepth 65536 in
set_option maxHeartbeats 40000000 in
theorem own_ascii (l : Launch) (Z : State) (a0 : Array Value) (hw : ∀ d ∈ tables_1, d.before a0 Z = true) (ws : List Jvm.Cond) (o0 : Addr) (p1 : Int32) (u_half : Int32) (u_low : Int32) (u_high : Int32) (u_encoding : Value) (u_line : Int32) (u_column : Int32) (u_afterCr : Int32) (u_position : Int64) (h0 : Heap) (n0 : Nat) (Z0 : n0 ≤ h0.size) (g0 : n0 ≤ o0) (E0 : Exa Z h0 o0 "crossmarc/reading/Cursor") (F_half : Fld Z h0 o0 "crossmarc/reading/Cursor" "half" "I" (.int u_half)) (F_low : Fld Z h0 o0 "crossmarc/reading/Cursor" "low" "I" (.int u_low)) (F_high : Fld Z h0 o0 "crossmarc/reading/Cursor" "high" "I" (.int u_high)) (F_encoding : Fld Z h0 o0 "crossmarc/reading/Cursor" "encoding" "Lcrossmarc/reading/CheckedEncoding;" u_encoding) (F_line : Fld Z h0 o0 "crossmarc/reading/Cursor" "line" "I" (.int u_line)) (F_column : Fld Z h0 o0 "crossmarc/reading/Cursor" "column" "I" (.int u_column)) (F_afterCr : Fld Z h0 o0 "crossmarc/reading/Cursor" "afterCr" "Z" (.int u_afterCr)) (F_position : Fld Z h0 o0 "crossmarc/reading/Cursor" "position" "J" (.long u_position)) :
    MetFree l (⟨"crossmarc/reading/Cursor", "passAsciiText", "(I)V"⟩ : MethodName) (head1 (Jvm.Cond.code (⟨"crossmarc/reading/Cursor", "passAsciiText", "(I)V"⟩ : MethodName) prog_53_method_9_code 2 none :: ws) ({ frames := 0, cells := 0, slots := 0, locals := 0 } : Room)) (fun a U => a = #[(.ref o0), (.int p1)] ∧ Z.Warmed39 U.vm ∧ U.heap = h0) (fun _ _ _ _ _ => True) (fun _ U o U' => ∃ v L, o = .returned v ∧ (own_Q_own_ascii Z o0 p1 u_half u_low u_high u_encoding u_line u_column u_afterCr u_position h0 n0) v U'.heap L ∧ FrameEnd U o U' L ({ frames := 0, cells := 0, slots := 0, locals := 0 } : Room).cells ({ frames := 0, cells := 0, slots := 0, locals := 0 } : Room).slots) := by
  refine MetFree.of_bodySF (plainFor_of_name own_pn1) hisR ?_
  intro p e s m args below meth c s₁ Bd hml0 hP hK
  obtain ⟨rfl, hZ, hh⟩ := hP
  have hx := Bd.exec
  have hby := Bd.bytes
  have hml : c.maxLocals = 2 := hml0
  have hown : s.vm.findClass "crossmarc/reading/Cursor" = some m.cls := findClass_of_methodNamed Bd.named
  have hnm := (name_of_methodNamed Bd.named Bd.method).1
  have hlk : meth.locks = false := BodyLoose.notSynchronized Bd
  have X0 : Stand p l e ({ frames := 0, cells := 0, slots := 0, locals := 0 } : Room) s m #[(.ref o0), (.int p1)] below meth c s₁ [] 0 0 := Stand.of_body Bd
  have e0 : s₁.heap = h0 := by rw [← hh, Bd.state]; rfl
  have N0 := Fr.nil n0
  show own_Ends p e below s (own_Q_own_ascii Z o0 p1 u_half u_low u_high u_encoding u_line u_column u_afterCr u_position h0 n0) ({ frames := 0, cells := 0, slots := 0, locals := 0 } : Room).cells ({ frames := 0, cells := 0, slots := 0, locals := 0 } : Room).slots _
  refine own_by (V := s₁.setTop (mkF m 0 #[.val (.ref o0), .val (.int p1)] [])) (fun t k => castTop (own_ef_own_ascii m o0 p1) k) ?_
  refine own_by (V := s₁.setTop (mkF m 1 #[.val (.ref o0), .val (.int p1)] [(.ref o0)])) (fun t k => XS.aloadN X0.here hx rfl (hb hby own_d_prog_53_9_0) rfl rfl k) ?_
  refine own_by (V := s₁.setTop (mkF m 2 #[.val (.ref o0), .val (.int p1)] [(.int (0 : Int32)), (.ref o0)])) (fun t k => XS.iconst X0.here hx rfl (hb hby own_d_prog_53_9_1) k) ?_
  obtain ⟨T1, h1, X1, e1, W1, st1⟩ := putFN X0 hx hZ hown (hw _ (List.mem_of_getElem? (i := 34) rfl)) Via.refl e0 F_afterCr E0 (Or.inl (hw _ (List.mem_of_getElem? (i := 35) rfl))) (hw _ (List.mem_of_getElem? (i := 6) rfl)) (ty := .boolean) (v' := (.int (0 : Int32))) (by decide) rfl rfl (g := (mkF m 2 #[.val (.ref o0), .val (.int p1)] [(.int (0 : Int32)), (.ref o0)])) rfl rfl (hb hby own_d_prog_53_9_2)
  have N1 := Fr.snoc X1 N0 g0
  have K1 := (Keep.refl h0 [o0]).wr W1 (Or.inl (List.mem_singleton.mpr rfl))
  have Zs1 : n0 ≤ h1.size := by rw [W1.size]; exact Z0
  have f2 := E0.wr W1
  have f3 := F_half.other W1 (Or.inr (slot_ne (Or.inl (hw _ (List.mem_of_getElem? (i := 18) rfl))) (Or.inl (hw _ (List.mem_of_getElem? (i := 35) rfl))) (by decide) (t := .int) (t' := .boolean) (by decide) (by decide)))
  have f4 := F_low.other W1 (Or.inr (slot_ne (Or.inl (hw _ (List.mem_of_getElem? (i := 20) rfl))) (Or.inl (hw _ (List.mem_of_getElem? (i := 35) rfl))) (by decide) (t := .int) (t' := .boolean) (by decide) (by decide)))
  have f5 := F_high.other W1 (Or.inr (slot_ne (Or.inl (hw _ (List.mem_of_getElem? (i := 22) rfl))) (Or.inl (hw _ (List.mem_of_getElem? (i := 35) rfl))) (by decide) (t := .int) (t' := .boolean) (by decide) (by decide)))
  have f6 := F_encoding.other W1 (Or.inr (slot_ne (Or.inr (hw _ (List.mem_of_getElem? (i := 24) rfl))) (Or.inl (hw _ (List.mem_of_getElem? (i := 35) rfl))) (by decide) (t := (.object "crossmarc/reading/CheckedEncoding")) (t' := .boolean) (by decide) (by decide)))
  have f7 := F_line.other W1 (Or.inr (slot_ne (Or.inl (hw _ (List.mem_of_getElem? (i := 26) rfl))) (Or.inl (hw _ (List.mem_of_getElem? (i := 35) rfl))) (by decide) (t := .int) (t' := .boolean) (by decide) (by decide)))
  have f8 := F_column.other W1 (Or.inr (slot_ne (Or.inl (hw _ (List.mem_of_getElem? (i := 28) rfl))) (Or.inl (hw _ (List.mem_of_getElem? (i := 35) rfl))) (by decide) (t := .int) (t' := .boolean) (by decide) (by decide)))
  have f9 := F_afterCr.same W1
  have f10 := F_position.other W1 (Or.inr (slot_ne (Or.inl (hw _ (List.mem_of_getElem? (i := 37) rfl))) (Or.inl (hw _ (List.mem_of_getElem? (i := 35) rfl))) (by decide) (t := .long) (t' := .boolean) (by decide) (by decide)))
  refine own_by (V := T1.setTop (mkF m 5 #[.val (.ref o0), .val (.int p1)] [])) st1 ?_
  refine own_by (V := T1.setTop (mkF m 6 #[.val (.ref o0), .val (.int p1)] [(.ref o0)])) (fun t k => XS.aloadN X1.here hx rfl (hb hby own_d_prog_53_9_5) rfl rfl k) ?_
  refine own_by (V := T1.setTop (mkF m 7 #[.val (.ref o0), .val (.int p1)] [(.ref o0), (.ref o0)])) (fun t k => XS.dup X1.here hx rfl (hb hby own_d_prog_53_9_6) rfl rfl k) ?_
  obtain ⟨T11, X11, e11, st11⟩ := getF X1 hx hZ hown (host := "") (Or.inl (hw _ (List.mem_of_getElem? (i := 36) rfl))) Via.refl e1 f10 (g := (mkF m 7 #[.val (.ref o0), .val (.int p1)] [(.ref o0), (.ref o0)])) rfl rfl (hb hby own_d_prog_53_9_7)
  refine own_by (V := T11.setTop (mkF m 10 #[.val (.ref o0), .val (.int p1)] [(.long u_position), (.ref o0)])) st11 ?_
  refine own_by (V := T11.setTop (mkF m 11 #[.val (.ref o0), .val (.int p1)] [(.int p1), (.long u_position), (.ref o0)])) (fun t k => XS.iloadN X11.here hx rfl (hb hby own_d_prog_53_9_10) rfl  k) ?_
  refine own_by (V := T11.setTop (mkF m 12 #[.val (.ref o0), .val (.int p1)] [(.long (p1.toInt64)), (.long u_position), (.ref o0)])) (fun t k => XS.i2l X11.here hx rfl (hb hby own_d_prog_53_9_11) rfl k) ?_
  refine own_by (V := T11.setTop (mkF m 13 #[.val (.ref o0), .val (.int p1)] [(.long (u_position + (p1.toInt64))), (.ref o0)])) (fun t k => XS.ladd X11.here hx rfl (hb hby own_d_prog_53_9_12) rfl k) ?_
  obtain ⟨T12, h12, X12, e12, W12, st12⟩ := putF X11 hx hZ hown (host := "") (Or.inl (hw _ (List.mem_of_getElem? (i := 36) rfl))) Via.refl e11 f10 f2 (Or.inl (hw _ (List.mem_of_getElem? (i := 37) rfl))) (hw _ (List.mem_of_getElem? (i := 6) rfl)) (ty := .long) (by decide) rfl rfl (g := (mkF m 13 #[.val (.ref o0), .val (.int p1)] [(.long (u_position + (p1.toInt64))), (.ref o0)])) rfl rfl (hb hby own_d_prog_53_9_13)
  have N12 := Fr.snoc X12 N1 g0
  have K12 := K1.wr W12 (Or.inl (List.mem_singleton.mpr rfl))
  have Zs12 : n0 ≤ h12.size := by rw [W12.size]; exact Zs1
  have f13 := f2.wr W12
  have f14 := f3.other W12 (Or.inr (slot_ne (Or.inl (hw _ (List.mem_of_getElem? (i := 18) rfl))) (Or.inl (hw _ (List.mem_of_getElem? (i := 37) rfl))) (by decide) (t := .int) (t' := .long) (by decide) (by decide)))
  have f15 := f4.other W12 (Or.inr (slot_ne (Or.inl (hw _ (List.mem_of_getElem? (i := 20) rfl))) (Or.inl (hw _ (List.mem_of_getElem? (i := 37) rfl))) (by decide) (t := .int) (t' := .long) (by decide) (by decide)))
  have f16 := f5.other W12 (Or.inr (slot_ne (Or.inl (hw _ (List.mem_of_getElem? (i := 22) rfl))) (Or.inl (hw _ (List.mem_of_getElem? (i := 37) rfl))) (by decide) (t := .int) (t' := .long) (by decide) (by decide)))
  have f17 := f6.other W12 (Or.inr (slot_ne (Or.inr (hw _ (List.mem_of_getElem? (i := 24) rfl))) (Or.inl (hw _ (List.mem_of_getElem? (i := 37) rfl))) (by decide) (t := (.object "crossmarc/reading/CheckedEncoding")) (t' := .long) (by decide) (by decide)))
  have f18 := f7.other W12 (Or.inr (slot_ne (Or.inl (hw _ (List.mem_of_getElem? (i := 26) rfl))) (Or.inl (hw _ (List.mem_of_getElem? (i := 37) rfl))) (by decide) (t := .int) (t' := .long) (by decide) (by decide)))
  have f19 := f8.other W12 (Or.inr (slot_ne (Or.inl (hw _ (List.mem_of_getElem? (i := 28) rfl))) (Or.inl (hw _ (List.mem_of_getElem? (i := 37) rfl))) (by decide) (t := .int) (t' := .long) (by decide) (by decide)))
  have f20 := f9.other W12 (Or.inr (slot_ne (Or.inl (hw _ (List.mem_of_getElem? (i := 35) rfl))) (Or.inl (hw _ (List.mem_of_getElem? (i := 37) rfl))) (by decide) (t := .boolean) (t' := .long) (by decide) (by decide)))
  have f21 := f10.same W12
  refine own_by (V := T12.setTop (mkF m 16 #[.val (.ref o0), .val (.int p1)] [])) st12 ?_
  refine own_by (V := T12.setTop (mkF m 17 #[.val (.ref o0), .val (.int p1)] [(.ref o0)])) (fun t k => XS.aloadN X12.here hx rfl (hb hby own_d_prog_53_9_16) rfl rfl k) ?_
  refine own_by (V := T12.setTop (mkF m 18 #[.val (.ref o0), .val (.int p1)] [(.ref o0), (.ref o0)])) (fun t k => XS.dup X12.here hx rfl (hb hby own_d_prog_53_9_17) rfl rfl k) ?_
  obtain ⟨T22, X22, e22, st22⟩ := getF X12 hx hZ hown (host := "") (Or.inl (hw _ (List.mem_of_getElem? (i := 27) rfl))) Via.refl e12 f19 (g := (mkF m 18 #[.val (.ref o0), .val (.int p1)] [(.ref o0), (.ref o0)])) rfl rfl (hb hby own_d_prog_53_9_18)
  refine own_by (V := T22.setTop (mkF m 21 #[.val (.ref o0), .val (.int p1)] [(.int u_column), (.ref o0)])) st22 ?_
  refine own_by (V := T22.setTop (mkF m 22 #[.val (.ref o0), .val (.int p1)] [(.int p1), (.int u_column), (.ref o0)])) (fun t k => XS.iloadN X22.here hx rfl (hb hby own_d_prog_53_9_21) rfl  k) ?_
  refine own_by (V := T22.setTop (mkF m 23 #[.val (.ref o0), .val (.int p1)] [(.int (u_column + p1)), (.ref o0)])) (fun t k => XS.iadd X22.here hx rfl (hb hby own_d_prog_53_9_22) rfl k) ?_
  obtain ⟨T23, h23, X23, e23, W23, st23⟩ := putF X22 hx hZ hown (host := "") (Or.inl (hw _ (List.mem_of_getElem? (i := 27) rfl))) Via.refl e22 f19 f13 (Or.inl (hw _ (List.mem_of_getElem? (i := 28) rfl))) (hw _ (List.mem_of_getElem? (i := 6) rfl)) (ty := .int) (by decide) rfl rfl (g := (mkF m 23 #[.val (.ref o0), .val (.int p1)] [(.int (u_column + p1)), (.ref o0)])) rfl rfl (hb hby own_d_prog_53_9_23)
  have N23 := Fr.snoc X23 N12 g0
  have K23 := K12.wr W23 (Or.inl (List.mem_singleton.mpr rfl))
  have Zs23 : n0 ≤ h23.size := by rw [W23.size]; exact Zs12
  have f24 := f13.wr W23
  have f25 := f14.other W23 (Or.inr (slot_ne (Or.inl (hw _ (List.mem_of_getElem? (i := 18) rfl))) (Or.inl (hw _ (List.mem_of_getElem? (i := 28) rfl))) (by decide) (t := .int) (t' := .int) (by decide) (by decide)))
  have f26 := f15.other W23 (Or.inr (slot_ne (Or.inl (hw _ (List.mem_of_getElem? (i := 20) rfl))) (Or.inl (hw _ (List.mem_of_getElem? (i := 28) rfl))) (by decide) (t := .int) (t' := .int) (by decide) (by decide)))
  have f27 := f16.other W23 (Or.inr (slot_ne (Or.inl (hw _ (List.mem_of_getElem? (i := 22) rfl))) (Or.inl (hw _ (List.mem_of_getElem? (i := 28) rfl))) (by decide) (t := .int) (t' := .int) (by decide) (by decide)))
  have f28 := f17.other W23 (Or.inr (slot_ne (Or.inr (hw _ (List.mem_of_getElem? (i := 24) rfl))) (Or.inl (hw _ (List.mem_of_getElem? (i := 28) rfl))) (by decide) (t := (.object "crossmarc/reading/CheckedEncoding")) (t' := .int) (by decide) (by decide)))
  have f29 := f18.other W23 (Or.inr (slot_ne (Or.inl (hw _ (List.mem_of_getElem? (i := 26) rfl))) (Or.inl (hw _ (List.mem_of_getElem? (i := 28) rfl))) (by decide) (t := .int) (t' := .int) (by decide) (by decide)))
  have f30 := f19.same W23
  have f31 := f20.other W23 (Or.inr (slot_ne (Or.inl (hw _ (List.mem_of_getElem? (i := 35) rfl))) (Or.inl (hw _ (List.mem_of_getElem? (i := 28) rfl))) (by decide) (t := .boolean) (t' := .int) (by decide) (by decide)))
  have f32 := f21.other W23 (Or.inr (slot_ne (Or.inl (hw _ (List.mem_of_getElem? (i := 37) rfl))) (Or.inl (hw _ (List.mem_of_getElem? (i := 28) rfl))) (by decide) (t := .long) (t' := .int) (by decide) (by decide)))
  refine own_by (V := T23.setTop (mkF m 26 #[.val (.ref o0), .val (.int p1)] [])) st23 ?_
  refine own_ret0 X23 hx hlk e23 Bd.returns (hb hby own_d_prog_53_9_26) ?_ (by decide) (by decide)
  exact ⟨rfl, N23, K23, f24, f25, f26, f27, f28, f29, f30, f31, f32⟩
def own_Q_own_pass (Z : State) (o0 : Addr) (p1 : Int32) (u_half : Int32) (u_low : Int32) (u_high : Int32) (u_encoding : Value) (u_line : Int32) (u_column : Int32) (u_afterCr : Int32) (u_position : Int64) (h0 : Heap) (n0 : Nat) : Option Value → Heap → List Loc → Prop := fun v h L => v = none ∧ Fr n0 L ∧ Keep h0 h [o0] ∧ Exa Z h o0 "crossmarc/reading/Cursor" ∧ Fld Z h o0 "crossmarc/reading/Cursor" "half" "I" (.int u_half) ∧ Fld Z h o0 "crossmarc/reading/Cursor" "low" "I" (.int u_low) ∧ Fld Z h o0 "crossmarc/reading/Cursor" "high" "I" (.int u_high) ∧ Fld Z h o0 "crossmarc/reading/Cursor" "encoding" "Lcrossmarc/reading/CheckedEncoding;" u_encoding ∧ Fld Z h o0 "crossmarc/reading/Cursor" "line" "I" (.int (u_line + (own_nl u_afterCr p1))) ∧ Fld Z h o0 "crossmarc/reading/Cursor" "column" "I" (.int (own_nc u_column p1)) ∧ Fld Z h o0 "crossmarc/reading/Cursor" "afterCr" "Z" (.int (own_pcr p1)) ∧ Fld Z h o0 "crossmarc/reading/Cursor" "position" "J" (.long u_position)
theorem own_ef_own_pass (m : MethodId) (x0 : Addr) (x1 : Int32) : entryFrame m #[(.ref x0), (.int x1)] 2 = mkF m 0 #[.val (.ref x0), .val (.int x1)] [] := by first | (simp [entryFrame, mkF, argsToLocals, Value.category]; done) | rfl
set_option maxRecDepth 65536 in
set_option maxHeartbeats 40000000 in
theorem own_pass (l : Launch) (Z : State) (a0 : Array Value) (hw : ∀ d ∈ tables_1, d.before a0 Z = true) (ws : List Jvm.Cond) (o0 : Addr) (p1 : Int32) (u_half : Int32) (u_low : Int32) (u_high : Int32) (u_encoding : Value) (u_line : Int32) (u_column : Int32) (u_afterCr : Int32) (u_position : Int64) (h0 : Heap) (n0 : Nat) (Z0 : n0 ≤ h0.size) (g0 : n0 ≤ o0) (E0 : Exa Z h0 o0 "crossmarc/reading/Cursor") (F_half : Fld Z h0 o0 "crossmarc/reading/Cursor" "half" "I" (.int u_half)) (F_low : Fld Z h0 o0 "crossmarc/reading/Cursor" "low" "I" (.int u_low)) (F_high : Fld Z h0 o0 "crossmarc/reading/Cursor" "high" "I" (.int u_high)) (F_encoding : Fld Z h0 o0 "crossmarc/reading/Cursor" "encoding" "Lcrossmarc/reading/CheckedEncoding;" u_encoding) (F_line : Fld Z h0 o0 "crossmarc/reading/Cursor" "line" "I" (.int u_line)) (F_column : Fld Z h0 o0 "crossmarc/reading/Cursor" "column" "I" (.int u_column)) (F_afterCr : Fld Z h0 o0 "crossmarc/reading/Cursor" "afterCr" "Z" (.int u_afterCr)) (F_position : Fld Z h0 o0 "crossmarc/reading/Cursor" "position" "J" (.long u_position)) :
    MetFree l (⟨"crossmarc/reading/Cursor", "pass", "(I)V"⟩ : MethodName) (head1 (Jvm.Cond.code (⟨"crossmarc/reading/Cursor", "pass", "(I)V"⟩ : MethodName) prog_53_method_10_code 2 none :: ws) ({ frames := 0, cells := 0, slots := 0, locals := 0 } : Room)) (fun a U => a = #[(.ref o0), (.int p1)] ∧ Z.Warmed39 U.vm ∧ U.heap = h0) (fun _ _ _ _ _ => True) (fun _ U o U' => ∃ v L, o = .returned v ∧ (own_Q_own_pass Z o0 p1 u_half u_low u_high u_encoding u_line u_column u_afterCr u_position h0 n0) v U'.heap L ∧ FrameEnd U o U' L ({ frames := 0, cells := 0, slots := 0, locals := 0 } : Room).cells ({ frames := 0, cells := 0, slots := 0, locals := 0 } : Room).slots) := by
  refine MetFree.of_bodySF (plainFor_of_name own_pn1) hisR ?_
  intro p e s m args below meth c s₁ Bd hml0 hP hK
  obtain ⟨rfl, hZ, hh⟩ := hP
  have hx := Bd.exec
  have hby := Bd.bytes
  have hml : c.maxLocals = 2 := hml0
  have hown : s.vm.findClass "crossmarc/reading/Cursor" = some m.cls := findClass_of_methodNamed Bd.named
  have hnm := (name_of_methodNamed Bd.named Bd.method).1
  have hlk : meth.locks = false := BodyLoose.notSynchronized Bd
  have X0 : Stand p l e ({ frames := 0, cells := 0, slots := 0, locals := 0 } : Room) s m #[(.ref o0), (.int p1)] below meth c s₁ [] 0 0 := Stand.of_body Bd
  have e0 : s₁.heap = h0 := by rw [← hh, Bd.state]; rfl
  have N0 := Fr.nil n0
  show own_Ends p e below s (own_Q_own_pass Z o0 p1 u_half u_low u_high u_encoding u_line u_column u_afterCr u_position h0 n0) ({ frames := 0, cells := 0, slots := 0, locals := 0 } : Room).cells ({ frames := 0, cells := 0, slots := 0, locals := 0 } : Room).slots _
  refine own_by (V := s₁.setTop (mkF m 0 #[.val (.ref o0), .val (.int p1)] [])) (fun t k => castTop (own_ef_own_pass m o0 p1) k) ?_
  refine own_by (V := s₁.setTop (mkF m 1 #[.val (.ref o0), .val (.int p1)] [(.int p1)])) (fun t k => XS.iloadN X0.here hx rfl (hb hby own_d_prog_53_10_0) rfl  k) ?_
  refine own_by (V := s₁.setTop (mkF m 3 #[.val (.ref o0), .val (.int p1)] [(.int (13 : Int32)), (.int p1)])) (fun t k => XS.bipush X0.here hx rfl (hb hby own_d_prog_53_10_1) k) ?_
  by_cases hb3_1 : p1 = (13 : Int32)
  · refine own_by (V := s₁.setTop (mkF m 12 #[.val (.ref o0), .val (.int p1)] [])) (fun t k => XS.icmpYes X0.here hx rfl (pc0 := 3) (pc' := 12) rfl (hb hby own_d_prog_53_10_3) rfl (teq hb3_1).1 (by decide) (by decide) k) ?_
    refine own_by (V := s₁.setTop (mkF m 13 #[.val (.ref o0), .val (.int p1)] [(.int p1)])) (fun t k => XS.iloadN X0.here hx rfl (hb hby own_d_prog_53_10_12) rfl  k) ?_
    refine own_by (V := s₁.setTop (mkF m 15 #[.val (.ref o0), .val (.int p1)] [(.int (13 : Int32)), (.int p1)])) (fun t k => XS.bipush X0.here hx rfl (hb hby own_d_prog_53_10_13) k) ?_
    have hb15_2 : (p1 = (13 : Int32)) := hb3_1
    refine own_by (V := s₁.setTop (mkF m 25 #[.val (.ref o0), .val (.int p1)] [])) (fun t k => XS.icmpYes X0.here hx rfl (pc0 := 15) (pc' := 25) rfl (hb hby own_d_prog_53_10_15) rfl (teq hb15_2).1 (by decide) (by decide) k) ?_
    refine own_by (V := s₁.setTop (mkF m 26 #[.val (.ref o0), .val (.int p1)] [(.ref o0)])) (fun t k => XS.aloadN X0.here hx rfl (hb hby own_d_prog_53_10_25) rfl rfl k) ?_
    refine own_by (V := s₁.setTop (mkF m 27 #[.val (.ref o0), .val (.int p1)] [(.ref o0), (.ref o0)])) (fun t k => XS.dup X0.here hx rfl (hb hby own_d_prog_53_10_26) rfl rfl k) ?_
    obtain ⟨T3, X3, e3, st3⟩ := getF X0 hx hZ hown (host := "") (Or.inl (hw _ (List.mem_of_getElem? (i := 25) rfl))) Via.refl e0 F_line (g := (mkF m 27 #[.val (.ref o0), .val (.int p1)] [(.ref o0), (.ref o0)])) rfl rfl (hb hby own_d_prog_53_10_27)
    refine own_by (V := T3.setTop (mkF m 30 #[.val (.ref o0), .val (.int p1)] [(.int u_line), (.ref o0)])) st3 ?_
    refine own_by (V := T3.setTop (mkF m 31 #[.val (.ref o0), .val (.int p1)] [(.int (1 : Int32)), (.int u_line), (.ref o0)])) (fun t k => XS.iconst X3.here hx rfl (hb hby own_d_prog_53_10_30) k) ?_
    refine own_by (V := T3.setTop (mkF m 32 #[.val (.ref o0), .val (.int p1)] [(.int (u_line + (1 : Int32))), (.ref o0)])) (fun t k => XS.iadd X3.here hx rfl (hb hby own_d_prog_53_10_31) rfl k) ?_
    obtain ⟨T4, h4, X4, e4, W4, st4⟩ := putF X3 hx hZ hown (host := "") (Or.inl (hw _ (List.mem_of_getElem? (i := 25) rfl))) Via.refl e3 F_line E0 (Or.inl (hw _ (List.mem_of_getElem? (i := 26) rfl))) (hw _ (List.mem_of_getElem? (i := 6) rfl)) (ty := .int) (by decide) rfl rfl (g := (mkF m 32 #[.val (.ref o0), .val (.int p1)] [(.int (u_line + (1 : Int32))), (.ref o0)])) rfl rfl (hb hby own_d_prog_53_10_32)
    have N4 := Fr.snoc X4 N0 g0
    have K4 := (Keep.refl h0 [o0]).wr W4 (Or.inl (List.mem_singleton.mpr rfl))
    have Zs4 : n0 ≤ h4.size := by rw [W4.size]; exact Z0
    have f5 := E0.wr W4
    have f6 := F_half.other W4 (Or.inr (slot_ne (Or.inl (hw _ (List.mem_of_getElem? (i := 18) rfl))) (Or.inl (hw _ (List.mem_of_getElem? (i := 26) rfl))) (by decide) (t := .int) (t' := .int) (by decide) (by decide)))
    have f7 := F_low.other W4 (Or.inr (slot_ne (Or.inl (hw _ (List.mem_of_getElem? (i := 20) rfl))) (Or.inl (hw _ (List.mem_of_getElem? (i := 26) rfl))) (by decide) (t := .int) (t' := .int) (by decide) (by decide)))
    have f8 := F_high.other W4 (Or.inr (slot_ne (Or.inl (hw _ (List.mem_of_getElem? (i := 22) rfl))) (Or.inl (hw _ (List.mem_of_getElem? (i := 26) rfl))) (by decide) (t := .int) (t' := .int) (by decide) (by decide)))
    have f9 := F_encoding.other W4 (Or.inr (slot_ne (Or.inr (hw _ (List.mem_of_getElem? (i := 24) rfl))) (Or.inl (hw _ (List.mem_of_getElem? (i := 26) rfl))) (by decide) (t := (.object "crossmarc/reading/CheckedEncoding")) (t' := .int) (by decide) (by decide)))
    have f10 := F_line.same W4
    have f11 := F_column.other W4 (Or.inr (slot_ne (Or.inl (hw _ (List.mem_of_getElem? (i := 28) rfl))) (Or.inl (hw _ (List.mem_of_getElem? (i := 26) rfl))) (by decide) (t := .int) (t' := .int) (by decide) (by decide)))
    have f12 := F_afterCr.other W4 (Or.inr (slot_ne (Or.inl (hw _ (List.mem_of_getElem? (i := 35) rfl))) (Or.inl (hw _ (List.mem_of_getElem? (i := 26) rfl))) (by decide) (t := .boolean) (t' := .int) (by decide) (by decide)))
    have f13 := F_position.other W4 (Or.inr (slot_ne (Or.inl (hw _ (List.mem_of_getElem? (i := 37) rfl))) (Or.inl (hw _ (List.mem_of_getElem? (i := 26) rfl))) (by decide) (t := .long) (t' := .int) (by decide) (by decide)))
    refine own_by (V := T4.setTop (mkF m 35 #[.val (.ref o0), .val (.int p1)] [])) st4 ?_
    refine own_by (V := T4.setTop (mkF m 36 #[.val (.ref o0), .val (.int p1)] [(.ref o0)])) (fun t k => XS.aloadN X4.here hx rfl (hb hby own_d_prog_53_10_35) rfl rfl k) ?_
    refine own_by (V := T4.setTop (mkF m 37 #[.val (.ref o0), .val (.int p1)] [(.int (1 : Int32)), (.ref o0)])) (fun t k => XS.iconst X4.here hx rfl (hb hby own_d_prog_53_10_36) k) ?_
    obtain ⟨T14, h14, X14, e14, W14, st14⟩ := putF X4 hx hZ hown (host := "") (Or.inl (hw _ (List.mem_of_getElem? (i := 27) rfl))) Via.refl e4 f11 f5 (Or.inl (hw _ (List.mem_of_getElem? (i := 28) rfl))) (hw _ (List.mem_of_getElem? (i := 6) rfl)) (ty := .int) (by decide) rfl rfl (g := (mkF m 37 #[.val (.ref o0), .val (.int p1)] [(.int (1 : Int32)), (.ref o0)])) rfl rfl (hb hby own_d_prog_53_10_37)
    have N14 := Fr.snoc X14 N4 g0
    have K14 := K4.wr W14 (Or.inl (List.mem_singleton.mpr rfl))
    have Zs14 : n0 ≤ h14.size := by rw [W14.size]; exact Zs4
    have f15 := f5.wr W14
    have f16 := f6.other W14 (Or.inr (slot_ne (Or.inl (hw _ (List.mem_of_getElem? (i := 18) rfl))) (Or.inl (hw _ (List.mem_of_getElem? (i := 28) rfl))) (by decide) (t := .int) (t' := .int) (by decide) (by decide)))
    have f17 := f7.other W14 (Or.inr (slot_ne (Or.inl (hw _ (List.mem_of_getElem? (i := 20) rfl))) (Or.inl (hw _ (List.mem_of_getElem? (i := 28) rfl))) (by decide) (t := .int) (t' := .int) (by decide) (by decide)))
    have f18 := f8.other W14 (Or.inr (slot_ne (Or.inl (hw _ (List.mem_of_getElem? (i := 22) rfl))) (Or.inl (hw _ (List.mem_of_getElem? (i := 28) rfl))) (by decide) (t := .int) (t' := .int) (by decide) (by decide)))
    have f19 := f9.other W14 (Or.inr (slot_ne (Or.inr (hw _ (List.mem_of_getElem? (i := 24) rfl))) (Or.inl (hw _ (List.mem_of_getElem? (i := 28) rfl))) (by decide) (t := (.object "crossmarc/reading/CheckedEncoding")) (t' := .int) (by decide) (by decide)))
    have f20 := f10.other W14 (Or.inr (slot_ne (Or.inl (hw _ (List.mem_of_getElem? (i := 26) rfl))) (Or.inl (hw _ (List.mem_of_getElem? (i := 28) rfl))) (by decide) (t := .int) (t' := .int) (by decide) (by decide)))
    have f21 := f11.same W14
    have f22 := f12.other W14 (Or.inr (slot_ne (Or.inl (hw _ (List.mem_of_getElem? (i := 35) rfl))) (Or.inl (hw _ (List.mem_of_getElem? (i := 28) rfl))) (by decide) (t := .boolean) (t' := .int) (by decide) (by decide)))
    have f23 := f13.other W14 (Or.inr (slot_ne (Or.inl (hw _ (List.mem_of_getElem? (i := 37) rfl))) (Or.inl (hw _ (List.mem_of_getElem? (i := 28) rfl))) (by decide) (t := .long) (t' := .int) (by decide) (by decide)))
    refine own_by (V := T14.setTop (mkF m 40 #[.val (.ref o0), .val (.int p1)] [])) st14 ?_
    refine own_by (V := T14.setTop (mkF m 53 #[.val (.ref o0), .val (.int p1)] [])) (fun t k => XS.goto X14.here hx rfl (pc0 := 40) (pc' := 53) rfl (hb hby own_d_prog_53_10_40) (by decide) (by decide) k) ?_
    refine own_by (V := T14.setTop (mkF m 54 #[.val (.ref o0), .val (.int p1)] [(.ref o0)])) (fun t k => XS.aloadN X14.here hx rfl (hb hby own_d_prog_53_10_53) rfl rfl k) ?_
    refine own_by (V := T14.setTop (mkF m 55 #[.val (.ref o0), .val (.int p1)] [(.int p1), (.ref o0)])) (fun t k => XS.iloadN X14.here hx rfl (hb hby own_d_prog_53_10_54) rfl  k) ?_
    refine own_by (V := T14.setTop (mkF m 57 #[.val (.ref o0), .val (.int p1)] [(.int (13 : Int32)), (.int p1), (.ref o0)])) (fun t k => XS.bipush X14.here hx rfl (hb hby own_d_prog_53_10_55) k) ?_
    have hb57_24 : (p1 = (13 : Int32)) := hb3_1
    refine own_by (V := T14.setTop (mkF m 60 #[.val (.ref o0), .val (.int p1)] [(.ref o0)])) (fun t k => XS.icmpNo X14.here hx rfl (hb hby own_d_prog_53_10_57) rfl (teq hb57_24).2 k) ?_
    refine own_by (V := T14.setTop (mkF m 61 #[.val (.ref o0), .val (.int p1)] [(.int (1 : Int32)), (.ref o0)])) (fun t k => XS.iconst X14.here hx rfl (hb hby own_d_prog_53_10_60) k) ?_
    refine own_by (V := T14.setTop (mkF m 65 #[.val (.ref o0), .val (.int p1)] [(.int (1 : Int32)), (.ref o0)])) (fun t k => XS.goto X14.here hx rfl (pc0 := 61) (pc' := 65) rfl (hb hby own_d_prog_53_10_61) (by decide) (by decide) k) ?_
    obtain ⟨T25, h25, X25, e25, W25, st25⟩ := putFN X14 hx hZ hown (hw _ (List.mem_of_getElem? (i := 34) rfl)) Via.refl e14 f22 f15 (Or.inl (hw _ (List.mem_of_getElem? (i := 35) rfl))) (hw _ (List.mem_of_getElem? (i := 6) rfl)) (ty := .boolean) (v' := (.int (1 : Int32))) (by decide) rfl rfl (g := (mkF m 65 #[.val (.ref o0), .val (.int p1)] [(.int (1 : Int32)), (.ref o0)])) rfl rfl (hb hby own_d_prog_53_10_65)
    have N25 := Fr.snoc X25 N14 g0
    have K25 := K14.wr W25 (Or.inl (List.mem_singleton.mpr rfl))
    have Zs25 : n0 ≤ h25.size := by rw [W25.size]; exact Zs14
    have f26 := f15.wr W25
    have f27 := f16.other W25 (Or.inr (slot_ne (Or.inl (hw _ (List.mem_of_getElem? (i := 18) rfl))) (Or.inl (hw _ (List.mem_of_getElem? (i := 35) rfl))) (by decide) (t := .int) (t' := .boolean) (by decide) (by decide)))
    have f28 := f17.other W25 (Or.inr (slot_ne (Or.inl (hw _ (List.mem_of_getElem? (i := 20) rfl))) (Or.inl (hw _ (List.mem_of_getElem? (i := 35) rfl))) (by decide) (t := .int) (t' := .boolean) (by decide) (by decide)))
    have f29 := f18.other W25 (Or.inr (slot_ne (Or.inl (hw _ (List.mem_of_getElem? (i := 22) rfl))) (Or.inl (hw _ (List.mem_of_getElem? (i := 35) rfl))) (by decide) (t := .int) (t' := .boolean) (by decide) (by decide)))
    have f30 := f19.other W25 (Or.inr (slot_ne (Or.inr (hw _ (List.mem_of_getElem? (i := 24) rfl))) (Or.inl (hw _ (List.mem_of_getElem? (i := 35) rfl))) (by decide) (t := (.object "crossmarc/reading/CheckedEncoding")) (t' := .boolean) (by decide) (by decide)))
    have f31 := f20.other W25 (Or.inr (slot_ne (Or.inl (hw _ (List.mem_of_getElem? (i := 26) rfl))) (Or.inl (hw _ (List.mem_of_getElem? (i := 35) rfl))) (by decide) (t := .int) (t' := .boolean) (by decide) (by decide)))
    have f32 := f21.other W25 (Or.inr (slot_ne (Or.inl (hw _ (List.mem_of_getElem? (i := 28) rfl))) (Or.inl (hw _ (List.mem_of_getElem? (i := 35) rfl))) (by decide) (t := .int) (t' := .boolean) (by decide) (by decide)))
    have f33 := f22.same W25
    have f34 := f23.other W25 (Or.inr (slot_ne (Or.inl (hw _ (List.mem_of_getElem? (i := 37) rfl))) (Or.inl (hw _ (List.mem_of_getElem? (i := 35) rfl))) (by decide) (t := .long) (t' := .boolean) (by decide) (by decide)))
    refine own_by (V := T25.setTop (mkF m 68 #[.val (.ref o0), .val (.int p1)] [])) st25 ?_
    refine own_ret0 X25 hx hlk e25 Bd.returns (hb hby own_d_prog_53_10_68) ?_ (by decide) (by decide)
    exact ⟨rfl, N25, K25, f26, f27, f28, f29, f30, (by rw [show (u_line + (own_nl u_afterCr p1)) = (u_line + (1 : Int32)) from by simp [own_nl, own_nc, own_pcr, hb3_1, hb15_2, hb57_24]]; exact f31), (by rw [show (own_nc u_column p1) = (1 : Int32) from by simp [own_nl, own_nc, own_pcr, hb3_1, hb15_2, hb57_24]]; exact f32), (by rw [show (own_pcr p1) = (1 : Int32) from by simp [own_nl, own_nc, own_pcr, hb3_1, hb15_2, hb57_24]]; exact f33), f34⟩
  · refine own_by (V := s₁.setTop (mkF m 6 #[.val (.ref o0), .val (.int p1)] [])) (fun t k => XS.icmpNo X0.here hx rfl (hb hby own_d_prog_53_10_3) rfl (feq hb3_1).1 k) ?_
    refine own_by (V := s₁.setTop (mkF m 7 #[.val (.ref o0), .val (.int p1)] [(.int p1)])) (fun t k => XS.iloadN X0.here hx rfl (hb hby own_d_prog_53_10_6) rfl  k) ?_
    refine own_by (V := s₁.setTop (mkF m 9 #[.val (.ref o0), .val (.int p1)] [(.int (10 : Int32)), (.int p1)])) (fun t k => XS.bipush X0.here hx rfl (hb hby own_d_prog_53_10_7) k) ?_
    by_cases hb9_35 : p1 = (10 : Int32)
    · refine own_by (V := s₁.setTop (mkF m 12 #[.val (.ref o0), .val (.int p1)] [])) (fun t k => XS.icmpNo X0.here hx rfl (hb hby own_d_prog_53_10_9) rfl (teq hb9_35).2 k) ?_
      refine own_by (V := s₁.setTop (mkF m 13 #[.val (.ref o0), .val (.int p1)] [(.int p1)])) (fun t k => XS.iloadN X0.here hx rfl (hb hby own_d_prog_53_10_12) rfl  k) ?_
      refine own_by (V := s₁.setTop (mkF m 15 #[.val (.ref o0), .val (.int p1)] [(.int (13 : Int32)), (.int p1)])) (fun t k => XS.bipush X0.here hx rfl (hb hby own_d_prog_53_10_13) k) ?_
      have hb15_36 : ¬ (p1 = (13 : Int32)) := hb3_1
      refine own_by (V := s₁.setTop (mkF m 18 #[.val (.ref o0), .val (.int p1)] [])) (fun t k => XS.icmpNo X0.here hx rfl (hb hby own_d_prog_53_10_15) rfl (feq hb15_36).1 k) ?_
      refine own_by (V := s₁.setTop (mkF m 19 #[.val (.ref o0), .val (.int p1)] [(.ref o0)])) (fun t k => XS.aloadN X0.here hx rfl (hb hby own_d_prog_53_10_18) rfl rfl k) ?_
      obtain ⟨T37, X37, e37, st37⟩ := getF X0 hx hZ hown (host := "") (Or.inl (hw _ (List.mem_of_getElem? (i := 34) rfl))) Via.refl e0 F_afterCr (g := (mkF m 19 #[.val (.ref o0), .val (.int p1)] [(.ref o0)])) rfl rfl (hb hby own_d_prog_53_10_19)
      refine own_by (V := T37.setTop (mkF m 22 #[.val (.ref o0), .val (.int p1)] [(.int u_afterCr)])) st37 ?_
      by_cases hb22_38 : u_afterCr = (0 : Int32)
      · refine own_by (V := T37.setTop (mkF m 25 #[.val (.ref o0), .val (.int p1)] [])) (fun t k => XS.ifNo X37.here hx rfl (hb hby own_d_prog_53_10_22) rfl ((if0 _ _).trans (teq hb22_38).2) k) ?_
        refine own_by (V := T37.setTop (mkF m 26 #[.val (.ref o0), .val (.int p1)] [(.ref o0)])) (fun t k => XS.aloadN X37.here hx rfl (hb hby own_d_prog_53_10_25) rfl rfl k) ?_
        refine own_by (V := T37.setTop (mkF m 27 #[.val (.ref o0), .val (.int p1)] [(.ref o0), (.ref o0)])) (fun t k => XS.dup X37.here hx rfl (hb hby own_d_prog_53_10_26) rfl rfl k) ?_
        obtain ⟨T39, X39, e39, st39⟩ := getF X37 hx hZ hown (host := "") (Or.inl (hw _ (List.mem_of_getElem? (i := 25) rfl))) Via.refl e37 F_line (g := (mkF m 27 #[.val (.ref o0), .val (.int p1)] [(.ref o0), (.ref o0)])) rfl rfl (hb hby own_d_prog_53_10_27)
        refine own_by (V := T39.setTop (mkF m 30 #[.val (.ref o0), .val (.int p1)] [(.int u_line), (.ref o0)])) st39 ?_
        refine own_by (V := T39.setTop (mkF m 31 #[.val (.ref o0), .val (.int p1)] [(.int (1 : Int32)), (.int u_line), (.ref o0)])) (fun t k => XS.iconst X39.here hx rfl (hb hby own_d_prog_53_10_30) k) ?_
        refine own_by (V := T39.setTop (mkF m 32 #[.val (.ref o0), .val (.int p1)] [(.int (u_line + (1 : Int32))), (.ref o0)])) (fun t k => XS.iadd X39.here hx rfl (hb hby own_d_prog_53_10_31) rfl k) ?_
        obtain ⟨T40, h40, X40, e40, W40, st40⟩ := putF X39 hx hZ hown (host := "") (Or.inl (hw _ (List.mem_of_getElem? (i := 25) rfl))) Via.refl e39 F_line E0 (Or.inl (hw _ (List.mem_of_getElem? (i := 26) rfl))) (hw _ (List.mem_of_getElem? (i := 6) rfl)) (ty := .int) (by decide) rfl rfl (g := (mkF m 32 #[.val (.ref o0), .val (.int p1)] [(.int (u_line + (1 : Int32))), (.ref o0)])) rfl rfl (hb hby own_d_prog_53_10_32)
        have N40 := Fr.snoc X40 N0 g0
        have K40 := (Keep.refl h0 [o0]).wr W40 (Or.inl (List.mem_singleton.mpr rfl))
        have Zs40 : n0 ≤ h40.size := by rw [W40.size]; exact Z0
        have f41 := E0.wr W40
        have f42 := F_half.other W40 (Or.inr (slot_ne (Or.inl (hw _ (List.mem_of_getElem? (i := 18) rfl))) (Or.inl (hw _ (List.mem_of_getElem? (i := 26) rfl))) (by decide) (t := .int) (t' := .int) (by decide) (by decide)))
        have f43 := F_low.other W40 (Or.inr (slot_ne (Or.inl (hw _ (List.mem_of_getElem? (i := 20) rfl))) (Or.inl (hw _ (List.mem_of_getElem? (i := 26) rfl))) (by decide) (t := .int) (t' := .int) (by decide) (by decide)))
        have f44 := F_high.other W40 (Or.inr (slot_ne (Or.inl (hw _ (List.mem_of_getElem? (i := 22) rfl))) (Or.inl (hw _ (List.mem_of_getElem? (i := 26) rfl))) (by decide) (t := .int) (t' := .int) (by decide) (by decide)))
        have f45 := F_encoding.other W40 (Or.inr (slot_ne (Or.inr (hw _ (List.mem_of_getElem? (i := 24) rfl))) (Or.inl (hw _ (List.mem_of_getElem? (i := 26) rfl))) (by decide) (t := (.object "crossmarc/reading/CheckedEncoding")) (t' := .int) (by decide) (by decide)))
        have f46 := F_line.same W40
        have f47 := F_column.other W40 (Or.inr (slot_ne (Or.inl (hw _ (List.mem_of_getElem? (i := 28) rfl))) (Or.inl (hw _ (List.mem_of_getElem? (i := 26) rfl))) (by decide) (t := .int) (t' := .int) (by decide) (by decide)))
        have f48 := F_afterCr.other W40 (Or.inr (slot_ne (Or.inl (hw _ (List.mem_of_getElem? (i := 35) rfl))) (Or.inl (hw _ (List.mem_of_getElem? (i := 26) rfl))) (by decide) (t := .boolean) (t' := .int) (by decide) (by decide)))
        have f49 := F_position.other W40 (Or.inr (slot_ne (Or.inl (hw _ (List.mem_of_getElem? (i := 37) rfl))) (Or.inl (hw _ (List.mem_of_getElem? (i := 26) rfl))) (by decide) (t := .long) (t' := .int) (by decide) (by decide)))
        refine own_by (V := T40.setTop (mkF m 35 #[.val (.ref o0), .val (.int p1)] [])) st40 ?_
        refine own_by (V := T40.setTop (mkF m 36 #[.val (.ref o0), .val (.int p1)] [(.ref o0)])) (fun t k => XS.aloadN X40.here hx rfl (hb hby own_d_prog_53_10_35) rfl rfl k) ?_
        refine own_by (V := T40.setTop (mkF m 37 #[.val (.ref o0), .val (.int p1)] [(.int (1 : Int32)), (.ref o0)])) (fun t k => XS.iconst X40.here hx rfl (hb hby own_d_prog_53_10_36) k) ?_
        obtain ⟨T50, h50, X50, e50, W50, st50⟩ := putF X40 hx hZ hown (host := "") (Or.inl (hw _ (List.mem_of_getElem? (i := 27) rfl))) Via.refl e40 f47 f41 (Or.inl (hw _ (List.mem_of_getElem? (i := 28) rfl))) (hw _ (List.mem_of_getElem? (i := 6) rfl)) (ty := .int) (by decide) rfl rfl (g := (mkF m 37 #[.val (.ref o0), .val (.int p1)] [(.int (1 : Int32)), (.ref o0)])) rfl rfl (hb hby own_d_prog_53_10_37)
        have N50 := Fr.snoc X50 N40 g0
        have K50 := K40.wr W50 (Or.inl (List.mem_singleton.mpr rfl))
        have Zs50 : n0 ≤ h50.size := by rw [W50.size]; exact Zs40
        have f51 := f41.wr W50
        have f52 := f42.other W50 (Or.inr (slot_ne (Or.inl (hw _ (List.mem_of_getElem? (i := 18) rfl))) (Or.inl (hw _ (List.mem_of_getElem? (i := 28) rfl))) (by decide) (t := .int) (t' := .int) (by decide) (by decide)))
        have f53 := f43.other W50 (Or.inr (slot_ne (Or.inl (hw _ (List.mem_of_getElem? (i := 20) rfl))) (Or.inl (hw _ (List.mem_of_getElem? (i := 28) rfl))) (by decide) (t := .int) (t' := .int) (by decide) (by decide)))
        have f54 := f44.other W50 (Or.inr (slot_ne (Or.inl (hw _ (List.mem_of_getElem? (i := 22) rfl))) (Or.inl (hw _ (List.mem_of_getElem? (i := 28) rfl))) (by decide) (t := .int) (t' := .int) (by decide) (by decide)))
        have f55 := f45.other W50 (Or.inr (slot_ne (Or.inr (hw _ (List.mem_of_getElem? (i := 24) rfl))) (Or.inl (hw _ (List.mem_of_getElem? (i := 28) rfl))) (by decide) (t := (.object "crossmarc/reading/CheckedEncoding")) (t' := .int) (by decide) (by decide)))
        have f56 := f46.other W50 (Or.inr (slot_ne (Or.inl (hw _ (List.mem_of_getElem? (i := 26) rfl))) (Or.inl (hw _ (List.mem_of_getElem? (i := 28) rfl))) (by decide) (t := .int) (t' := .int) (by decide) (by decide)))
        have f57 := f47.same W50
        have f58 := f48.other W50 (Or.inr (slot_ne (Or.inl (hw _ (List.mem_of_getElem? (i := 35) rfl))) (Or.inl (hw _ (List.mem_of_getElem? (i := 28) rfl))) (by decide) (t := .boolean) (t' := .int) (by decide) (by decide)))
        have f59 := f49.other W50 (Or.inr (slot_ne (Or.inl (hw _ (List.mem_of_getElem? (i := 37) rfl))) (Or.inl (hw _ (List.mem_of_getElem? (i := 28) rfl))) (by decide) (t := .long) (t' := .int) (by decide) (by decide)))
        refine own_by (V := T50.setTop (mkF m 40 #[.val (.ref o0), .val (.int p1)] [])) st50 ?_
        refine own_by (V := T50.setTop (mkF m 53 #[.val (.ref o0), .val (.int p1)] [])) (fun t k => XS.goto X50.here hx rfl (pc0 := 40) (pc' := 53) rfl (hb hby own_d_prog_53_10_40) (by decide) (by decide) k) ?_
        refine own_by (V := T50.setTop (mkF m 54 #[.val (.ref o0), .val (.int p1)] [(.ref o0)])) (fun t k => XS.aloadN X50.here hx rfl (hb hby own_d_prog_53_10_53) rfl rfl k) ?_
        refine own_by (V := T50.setTop (mkF m 55 #[.val (.ref o0), .val (.int p1)] [(.int p1), (.ref o0)])) (fun t k => XS.iloadN X50.here hx rfl (hb hby own_d_prog_53_10_54) rfl  k) ?_
        refine own_by (V := T50.setTop (mkF m 57 #[.val (.ref o0), .val (.int p1)] [(.int (13 : Int32)), (.int p1), (.ref o0)])) (fun t k => XS.bipush X50.here hx rfl (hb hby own_d_prog_53_10_55) k) ?_
        have hb57_60 : ¬ (p1 = (13 : Int32)) := hb3_1
        refine own_by (V := T50.setTop (mkF m 64 #[.val (.ref o0), .val (.int p1)] [(.ref o0)])) (fun t k => XS.icmpYes X50.here hx rfl (pc0 := 57) (pc' := 64) rfl (hb hby own_d_prog_53_10_57) rfl (feq hb57_60).2 (by decide) (by decide) k) ?_
        refine own_by (V := T50.setTop (mkF m 65 #[.val (.ref o0), .val (.int p1)] [(.int (0 : Int32)), (.ref o0)])) (fun t k => XS.iconst X50.here hx rfl (hb hby own_d_prog_53_10_64) k) ?_
        obtain ⟨T61, h61, X61, e61, W61, st61⟩ := putFN X50 hx hZ hown (hw _ (List.mem_of_getElem? (i := 34) rfl)) Via.refl e50 f58 f51 (Or.inl (hw _ (List.mem_of_getElem? (i := 35) rfl))) (hw _ (List.mem_of_getElem? (i := 6) rfl)) (ty := .boolean) (v' := (.int (0 : Int32))) (by decide) rfl rfl (g := (mkF m 65 #[.val (.ref o0), .val (.int p1)] [(.int (0 : Int32)), (.ref o0)])) rfl rfl (hb hby own_d_prog_53_10_65)
        have N61 := Fr.snoc X61 N50 g0
        have K61 := K50.wr W61 (Or.inl (List.mem_singleton.mpr rfl))
        have Zs61 : n0 ≤ h61.size := by rw [W61.size]; exact Zs50
        have f62 := f51.wr W61
        have f63 := f52.other W61 (Or.inr (slot_ne (Or.inl (hw _ (List.mem_of_getElem? (i := 18) rfl))) (Or.inl (hw _ (List.mem_of_getElem? (i := 35) rfl))) (by decide) (t := .int) (t' := .boolean) (by decide) (by decide)))
        have f64 := f53.other W61 (Or.inr (slot_ne (Or.inl (hw _ (List.mem_of_getElem? (i := 20) rfl))) (Or.inl (hw _ (List.mem_of_getElem? (i := 35) rfl))) (by decide) (t := .int) (t' := .boolean) (by decide) (by decide)))
        have f65 := f54.other W61 (Or.inr (slot_ne (Or.inl (hw _ (List.mem_of_getElem? (i := 22) rfl))) (Or.inl (hw _ (List.mem_of_getElem? (i := 35) rfl))) (by decide) (t := .int) (t' := .boolean) (by decide) (by decide)))
        have f66 := f55.other W61 (Or.inr (slot_ne (Or.inr (hw _ (List.mem_of_getElem? (i := 24) rfl))) (Or.inl (hw _ (List.mem_of_getElem? (i := 35) rfl))) (by decide) (t := (.object "crossmarc/reading/CheckedEncoding")) (t' := .boolean) (by decide) (by decide)))
        have f67 := f56.other W61 (Or.inr (slot_ne (Or.inl (hw _ (List.mem_of_getElem? (i := 26) rfl))) (Or.inl (hw _ (List.mem_of_getElem? (i := 35) rfl))) (by decide) (t := .int) (t' := .boolean) (by decide) (by decide)))
        have f68 := f57.other W61 (Or.inr (slot_ne (Or.inl (hw _ (List.mem_of_getElem? (i := 28) rfl))) (Or.inl (hw _ (List.mem_of_getElem? (i := 35) rfl))) (by decide) (t := .int) (t' := .boolean) (by decide) (by decide)))
        have f69 := f58.same W61
        have f70 := f59.other W61 (Or.inr (slot_ne (Or.inl (hw _ (List.mem_of_getElem? (i := 37) rfl))) (Or.inl (hw _ (List.mem_of_getElem? (i := 35) rfl))) (by decide) (t := .long) (t' := .boolean) (by decide) (by decide)))
        refine own_by (V := T61.setTop (mkF m 68 #[.val (.ref o0), .val (.int p1)] [])) st61 ?_
        refine own_ret0 X61 hx hlk e61 Bd.returns (hb hby own_d_prog_53_10_68) ?_ (by decide) (by decide)
        exact ⟨rfl, N61, K61, f62, f63, f64, f65, f66, (by rw [show (u_line + (own_nl u_afterCr p1)) = (u_line + (1 : Int32)) from by simp [own_nl, own_nc, own_pcr, hb3_1, hb9_35, hb15_36, hb22_38, hb57_60]]; exact f67), (by rw [show (own_nc u_column p1) = (1 : Int32) from by simp [own_nl, own_nc, own_pcr, hb3_1, hb9_35, hb15_36, hb22_38, hb57_60]]; exact f68), (by rw [show (own_pcr p1) = (0 : Int32) from by simp [own_nl, own_nc, own_pcr, hb3_1, hb9_35, hb15_36, hb22_38, hb57_60]]; exact f69), f70⟩
      · refine own_by (V := T37.setTop (mkF m 35 #[.val (.ref o0), .val (.int p1)] [])) (fun t k => XS.ifYes X37.here hx rfl (pc0 := 22) (pc' := 35) rfl (hb hby own_d_prog_53_10_22) rfl ((if0 _ _).trans (feq hb22_38).2) (by decide) (by decide) k) ?_
        refine own_by (V := T37.setTop (mkF m 36 #[.val (.ref o0), .val (.int p1)] [(.ref o0)])) (fun t k => XS.aloadN X37.here hx rfl (hb hby own_d_prog_53_10_35) rfl rfl k) ?_
        refine own_by (V := T37.setTop (mkF m 37 #[.val (.ref o0), .val (.int p1)] [(.int (1 : Int32)), (.ref o0)])) (fun t k => XS.iconst X37.here hx rfl (hb hby own_d_prog_53_10_36) k) ?_
        obtain ⟨T71, h71, X71, e71, W71, st71⟩ := putF X37 hx hZ hown (host := "") (Or.inl (hw _ (List.mem_of_getElem? (i := 27) rfl))) Via.refl e37 F_column E0 (Or.inl (hw _ (List.mem_of_getElem? (i := 28) rfl))) (hw _ (List.mem_of_getElem? (i := 6) rfl)) (ty := .int) (by decide) rfl rfl (g := (mkF m 37 #[.val (.ref o0), .val (.int p1)] [(.int (1 : Int32)), (.ref o0)])) rfl rfl (hb hby own_d_prog_53_10_37)
        have N71 := Fr.snoc X71 N0 g0
        have K71 := (Keep.refl h0 [o0]).wr W71 (Or.inl (List.mem_singleton.mpr rfl))
        have Zs71 : n0 ≤ h71.size := by rw [W71.size]; exact Z0
        have f72 := E0.wr W71
        have f73 := F_half.other W71 (Or.inr (slot_ne (Or.inl (hw _ (List.mem_of_getElem? (i := 18) rfl))) (Or.inl (hw _ (List.mem_of_getElem? (i := 28) rfl))) (by decide) (t := .int) (t' := .int) (by decide) (by decide)))
        have f74 := F_low.other W71 (Or.inr (slot_ne (Or.inl (hw _ (List.mem_of_getElem? (i := 20) rfl))) (Or.inl (hw _ (List.mem_of_getElem? (i := 28) rfl))) (by decide) (t := .int) (t' := .int) (by decide) (by decide)))
        have f75 := F_high.other W71 (Or.inr (slot_ne (Or.inl (hw _ (List.mem_of_getElem? (i := 22) rfl))) (Or.inl (hw _ (List.mem_of_getElem? (i := 28) rfl))) (by decide) (t := .int) (t' := .int) (by decide) (by decide)))
        have f76 := F_encoding.other W71 (Or.inr (slot_ne (Or.inr (hw _ (List.mem_of_getElem? (i := 24) rfl))) (Or.inl (hw _ (List.mem_of_getElem? (i := 28) rfl))) (by decide) (t := (.object "crossmarc/reading/CheckedEncoding")) (t' := .int) (by decide) (by decide)))
        have f77 := F_line.other W71 (Or.inr (slot_ne (Or.inl (hw _ (List.mem_of_getElem? (i := 26) rfl))) (Or.inl (hw _ (List.mem_of_getElem? (i := 28) rfl))) (by decide) (t := .int) (t' := .int) (by decide) (by decide)))
        have f78 := F_column.same W71
        have f79 := F_afterCr.other W71 (Or.inr (slot_ne (Or.inl (hw _ (List.mem_of_getElem? (i := 35) rfl))) (Or.inl (hw _ (List.mem_of_getElem? (i := 28) rfl))) (by decide) (t := .boolean) (t' := .int) (by decide) (by decide)))
        have f80 := F_position.other W71 (Or.inr (slot_ne (Or.inl (hw _ (List.mem_of_getElem? (i := 37) rfl))) (Or.inl (hw _ (List.mem_of_getElem? (i := 28) rfl))) (by decide) (t := .long) (t' := .int) (by decide) (by decide)))
        refine own_by (V := T71.setTop (mkF m 40 #[.val (.ref o0), .val (.int p1)] [])) st71 ?_
        refine own_by (V := T71.setTop (mkF m 53 #[.val (.ref o0), .val (.int p1)] [])) (fun t k => XS.goto X71.here hx rfl (pc0 := 40) (pc' := 53) rfl (hb hby own_d_prog_53_10_40) (by decide) (by decide) k) ?_
        refine own_by (V := T71.setTop (mkF m 54 #[.val (.ref o0), .val (.int p1)] [(.ref o0)])) (fun t k => XS.aloadN X71.here hx rfl (hb hby own_d_prog_53_10_53) rfl rfl k) ?_
        refine own_by (V := T71.setTop (mkF m 55 #[.val (.ref o0), .val (.int p1)] [(.int p1), (.ref o0)])) (fun t k => XS.iloadN X71.here hx rfl (hb hby own_d_prog_53_10_54) rfl  k) ?_
        refine own_by (V := T71.setTop (mkF m 57 #[.val (.ref o0), .val (.int p1)] [(.int (13 : Int32)), (.int p1), (.ref o0)])) (fun t k => XS.bipush X71.here hx rfl (hb hby own_d_prog_53_10_55) k) ?_
        have hb57_81 : ¬ (p1 = (13 : Int32)) := hb3_1
        refine own_by (V := T71.setTop (mkF m 64 #[.val (.ref o0), .val (.int p1)] [(.ref o0)])) (fun t k => XS.icmpYes X71.here hx rfl (pc0 := 57) (pc' := 64) rfl (hb hby own_d_prog_53_10_57) rfl (feq hb57_81).2 (by decide) (by decide) k) ?_
        refine own_by (V := T71.setTop (mkF m 65 #[.val (.ref o0), .val (.int p1)] [(.int (0 : Int32)), (.ref o0)])) (fun t k => XS.iconst X71.here hx rfl (hb hby own_d_prog_53_10_64) k) ?_
        obtain ⟨T82, h82, X82, e82, W82, st82⟩ := putFN X71 hx hZ hown (hw _ (List.mem_of_getElem? (i := 34) rfl)) Via.refl e71 f79 f72 (Or.inl (hw _ (List.mem_of_getElem? (i := 35) rfl))) (hw _ (List.mem_of_getElem? (i := 6) rfl)) (ty := .boolean) (v' := (.int (0 : Int32))) (by decide) rfl rfl (g := (mkF m 65 #[.val (.ref o0), .val (.int p1)] [(.int (0 : Int32)), (.ref o0)])) rfl rfl (hb hby own_d_prog_53_10_65)
        have N82 := Fr.snoc X82 N71 g0
        have K82 := K71.wr W82 (Or.inl (List.mem_singleton.mpr rfl))
        have Zs82 : n0 ≤ h82.size := by rw [W82.size]; exact Zs71
        have f83 := f72.wr W82
        have f84 := f73.other W82 (Or.inr (slot_ne (Or.inl (hw _ (List.mem_of_getElem? (i := 18) rfl))) (Or.inl (hw _ (List.mem_of_getElem? (i := 35) rfl))) (by decide) (t := .int) (t' := .boolean) (by decide) (by decide)))
        have f85 := f74.other W82 (Or.inr (slot_ne (Or.inl (hw _ (List.mem_of_getElem? (i := 20) rfl))) (Or.inl (hw _ (List.mem_of_getElem? (i := 35) rfl))) (by decide) (t := .int) (t' := .boolean) (by decide) (by decide)))
        have f86 := f75.other W82 (Or.inr (slot_ne (Or.inl (hw _ (List.mem_of_getElem? (i := 22) rfl))) (Or.inl (hw _ (List.mem_of_getElem? (i := 35) rfl))) (by decide) (t := .int) (t' := .boolean) (by decide) (by decide)))
        have f87 := f76.other W82 (Or.inr (slot_ne (Or.inr (hw _ (List.mem_of_getElem? (i := 24) rfl))) (Or.inl (hw _ (List.mem_of_getElem? (i := 35) rfl))) (by decide) (t := (.object "crossmarc/reading/CheckedEncoding")) (t' := .boolean) (by decide) (by decide)))
        have f88 := f77.other W82 (Or.inr (slot_ne (Or.inl (hw _ (List.mem_of_getElem? (i := 26) rfl))) (Or.inl (hw _ (List.mem_of_getElem? (i := 35) rfl))) (by decide) (t := .int) (t' := .boolean) (by decide) (by decide)))
        have f89 := f78.other W82 (Or.inr (slot_ne (Or.inl (hw _ (List.mem_of_getElem? (i := 28) rfl))) (Or.inl (hw _ (List.mem_of_getElem? (i := 35) rfl))) (by decide) (t := .int) (t' := .boolean) (by decide) (by decide)))
        have f90 := f79.same W82
        have f91 := f80.other W82 (Or.inr (slot_ne (Or.inl (hw _ (List.mem_of_getElem? (i := 37) rfl))) (Or.inl (hw _ (List.mem_of_getElem? (i := 35) rfl))) (by decide) (t := .long) (t' := .boolean) (by decide) (by decide)))
        refine own_by (V := T82.setTop (mkF m 68 #[.val (.ref o0), .val (.int p1)] [])) st82 ?_
        refine own_ret0 X82 hx hlk e82 Bd.returns (hb hby own_d_prog_53_10_68) ?_ (by decide) (by decide)
        exact ⟨rfl, N82, K82, f83, f84, f85, f86, f87, (by rw [show (u_line + (own_nl u_afterCr p1)) = u_line from by simp [own_nl, own_nc, own_pcr, hb3_1, hb9_35, hb15_36, hb22_38, hb57_81]]; exact f88), (by rw [show (own_nc u_column p1) = (1 : Int32) from by simp [own_nl, own_nc, own_pcr, hb3_1, hb9_35, hb15_36, hb22_38, hb57_81]]; exact f89), (by rw [show (own_pcr p1) = (0 : Int32) from by simp [own_nl, own_nc, own_pcr, hb3_1, hb9_35, hb15_36, hb22_38, hb57_81]]; exact f90), f91⟩
    · refine own_by (V := s₁.setTop (mkF m 43 #[.val (.ref o0), .val (.int p1)] [])) (fun t k => XS.icmpYes X0.here hx rfl (pc0 := 9) (pc' := 43) rfl (hb hby own_d_prog_53_10_9) rfl (feq hb9_35).2 (by decide) (by decide) k) ?_
      refine own_by (V := s₁.setTop (mkF m 44 #[.val (.ref o0), .val (.int p1)] [(.ref o0)])) (fun t k => XS.aloadN X0.here hx rfl (hb hby own_d_prog_53_10_43) rfl rfl k) ?_
      refine own_by (V := s₁.setTop (mkF m 45 #[.val (.ref o0), .val (.int p1)] [(.ref o0), (.ref o0)])) (fun t k => XS.dup X0.here hx rfl (hb hby own_d_prog_53_10_44) rfl rfl k) ?_
      obtain ⟨T92, X92, e92, st92⟩ := getF X0 hx hZ hown (host := "") (Or.inl (hw _ (List.mem_of_getElem? (i := 27) rfl))) Via.refl e0 F_column (g := (mkF m 45 #[.val (.ref o0), .val (.int p1)] [(.ref o0), (.ref o0)])) rfl rfl (hb hby own_d_prog_53_10_45)
      refine own_by (V := T92.setTop (mkF m 48 #[.val (.ref o0), .val (.int p1)] [(.int u_column), (.ref o0)])) st92 ?_
      refine own_by (V := T92.setTop (mkF m 49 #[.val (.ref o0), .val (.int p1)] [(.int (1 : Int32)), (.int u_column), (.ref o0)])) (fun t k => XS.iconst X92.here hx rfl (hb hby own_d_prog_53_10_48) k) ?_
      refine own_by (V := T92.setTop (mkF m 50 #[.val (.ref o0), .val (.int p1)] [(.int (u_column + (1 : Int32))), (.ref o0)])) (fun t k => XS.iadd X92.here hx rfl (hb hby own_d_prog_53_10_49) rfl k) ?_
      obtain ⟨T93, h93, X93, e93, W93, st93⟩ := putF X92 hx hZ hown (host := "") (Or.inl (hw _ (List.mem_of_getElem? (i := 27) rfl))) Via.refl e92 F_column E0 (Or.inl (hw _ (List.mem_of_getElem? (i := 28) rfl))) (hw _ (List.mem_of_getElem? (i := 6) rfl)) (ty := .int) (by decide) rfl rfl (g := (mkF m 50 #[.val (.ref o0), .val (.int p1)] [(.int (u_column + (1 : Int32))), (.ref o0)])) rfl rfl (hb hby own_d_prog_53_10_50)
      have N93 := Fr.snoc X93 N0 g0
      have K93 := (Keep.refl h0 [o0]).wr W93 (Or.inl (List.mem_singleton.mpr rfl))
      have Zs93 : n0 ≤ h93.size := by rw [W93.size]; exact Z0
      have f94 := E0.wr W93
      have f95 := F_half.other W93 (Or.inr (slot_ne (Or.inl (hw _ (List.mem_of_getElem? (i := 18) rfl))) (Or.inl (hw _ (List.mem_of_getElem? (i := 28) rfl))) (by decide) (t := .int) (t' := .int) (by decide) (by decide)))
      have f96 := F_low.other W93 (Or.inr (slot_ne (Or.inl (hw _ (List.mem_of_getElem? (i := 20) rfl))) (Or.inl (hw _ (List.mem_of_getElem? (i := 28) rfl))) (by decide) (t := .int) (t' := .int) (by decide) (by decide)))
      have f97 := F_high.other W93 (Or.inr (slot_ne (Or.inl (hw _ (List.mem_of_getElem? (i := 22) rfl))) (Or.inl (hw _ (List.mem_of_getElem? (i := 28) rfl))) (by decide) (t := .int) (t' := .int) (by decide) (by decide)))
      have f98 := F_encoding.other W93 (Or.inr (slot_ne (Or.inr (hw _ (List.mem_of_getElem? (i := 24) rfl))) (Or.inl (hw _ (List.mem_of_getElem? (i := 28) rfl))) (by decide) (t := (.object "crossmarc/reading/CheckedEncoding")) (t' := .int) (by decide) (by decide)))
      have f99 := F_line.other W93 (Or.inr (slot_ne (Or.inl (hw _ (List.mem_of_getElem? (i := 26) rfl))) (Or.inl (hw _ (List.mem_of_getElem? (i := 28) rfl))) (by decide) (t := .int) (t' := .int) (by decide) (by decide)))
      have f100 := F_column.same W93
      have f101 := F_afterCr.other W93 (Or.inr (slot_ne (Or.inl (hw _ (List.mem_of_getElem? (i := 35) rfl))) (Or.inl (hw _ (List.mem_of_getElem? (i := 28) rfl))) (by decide) (t := .boolean) (t' := .int) (by decide) (by decide)))
      have f102 := F_position.other W93 (Or.inr (slot_ne (Or.inl (hw _ (List.mem_of_getElem? (i := 37) rfl))) (Or.inl (hw _ (List.mem_of_getElem? (i := 28) rfl))) (by decide) (t := .long) (t' := .int) (by decide) (by decide)))
      refine own_by (V := T93.setTop (mkF m 53 #[.val (.ref o0), .val (.int p1)] [])) st93 ?_
      refine own_by (V := T93.setTop (mkF m 54 #[.val (.ref o0), .val (.int p1)] [(.ref o0)])) (fun t k => XS.aloadN X93.here hx rfl (hb hby own_d_prog_53_10_53) rfl rfl k) ?_
      refine own_by (V := T93.setTop (mkF m 55 #[.val (.ref o0), .val (.int p1)] [(.int p1), (.ref o0)])) (fun t k => XS.iloadN X93.here hx rfl (hb hby own_d_prog_53_10_54) rfl  k) ?_
      refine own_by (V := T93.setTop (mkF m 57 #[.val (.ref o0), .val (.int p1)] [(.int (13 : Int32)), (.int p1), (.ref o0)])) (fun t k => XS.bipush X93.here hx rfl (hb hby own_d_prog_53_10_55) k) ?_
      have hb57_103 : ¬ (p1 = (13 : Int32)) := hb3_1
      refine own_by (V := T93.setTop (mkF m 64 #[.val (.ref o0), .val (.int p1)] [(.ref o0)])) (fun t k => XS.icmpYes X93.here hx rfl (pc0 := 57) (pc' := 64) rfl (hb hby own_d_prog_53_10_57) rfl (feq hb57_103).2 (by decide) (by decide) k) ?_
      refine own_by (V := T93.setTop (mkF m 65 #[.val (.ref o0), .val (.int p1)] [(.int (0 : Int32)), (.ref o0)])) (fun t k => XS.iconst X93.here hx rfl (hb hby own_d_prog_53_10_64) k) ?_
      obtain ⟨T104, h104, X104, e104, W104, st104⟩ := putFN X93 hx hZ hown (hw _ (List.mem_of_getElem? (i := 34) rfl)) Via.refl e93 f101 f94 (Or.inl (hw _ (List.mem_of_getElem? (i := 35) rfl))) (hw _ (List.mem_of_getElem? (i := 6) rfl)) (ty := .boolean) (v' := (.int (0 : Int32))) (by decide) rfl rfl (g := (mkF m 65 #[.val (.ref o0), .val (.int p1)] [(.int (0 : Int32)), (.ref o0)])) rfl rfl (hb hby own_d_prog_53_10_65)
      have N104 := Fr.snoc X104 N93 g0
      have K104 := K93.wr W104 (Or.inl (List.mem_singleton.mpr rfl))
      have Zs104 : n0 ≤ h104.size := by rw [W104.size]; exact Zs93
      have f105 := f94.wr W104
      have f106 := f95.other W104 (Or.inr (slot_ne (Or.inl (hw _ (List.mem_of_getElem? (i := 18) rfl))) (Or.inl (hw _ (List.mem_of_getElem? (i := 35) rfl))) (by decide) (t := .int) (t' := .boolean) (by decide) (by decide)))
      have f107 := f96.other W104 (Or.inr (slot_ne (Or.inl (hw _ (List.mem_of_getElem? (i := 20) rfl))) (Or.inl (hw _ (List.mem_of_getElem? (i := 35) rfl))) (by decide) (t := .int) (t' := .boolean) (by decide) (by decide)))
      have f108 := f97.other W104 (Or.inr (slot_ne (Or.inl (hw _ (List.mem_of_getElem? (i := 22) rfl))) (Or.inl (hw _ (List.mem_of_getElem? (i := 35) rfl))) (by decide) (t := .int) (t' := .boolean) (by decide) (by decide)))
      have f109 := f98.other W104 (Or.inr (slot_ne (Or.inr (hw _ (List.mem_of_getElem? (i := 24) rfl))) (Or.inl (hw _ (List.mem_of_getElem? (i := 35) rfl))) (by decide) (t := (.object "crossmarc/reading/CheckedEncoding")) (t' := .boolean) (by decide) (by decide)))
      have f110 := f99.other W104 (Or.inr (slot_ne (Or.inl (hw _ (List.mem_of_getElem? (i := 26) rfl))) (Or.inl (hw _ (List.mem_of_getElem? (i := 35) rfl))) (by decide) (t := .int) (t' := .boolean) (by decide) (by decide)))
      have f111 := f100.other W104 (Or.inr (slot_ne (Or.inl (hw _ (List.mem_of_getElem? (i := 28) rfl))) (Or.inl (hw _ (List.mem_of_getElem? (i := 35) rfl))) (by decide) (t := .int) (t' := .boolean) (by decide) (by decide)))
      have f112 := f101.same W104
      have f113 := f102.other W104 (Or.inr (slot_ne (Or.inl (hw _ (List.mem_of_getElem? (i := 37) rfl))) (Or.inl (hw _ (List.mem_of_getElem? (i := 35) rfl))) (by decide) (t := .long) (t' := .boolean) (by decide) (by decide)))
      refine own_by (V := T104.setTop (mkF m 68 #[.val (.ref o0), .val (.int p1)] [])) st104 ?_
      refine own_ret0 X104 hx hlk e104 Bd.returns (hb hby own_d_prog_53_10_68) ?_ (by decide) (by decide)
      exact ⟨rfl, N104, K104, f105, f106, f107, f108, f109, (by rw [show (u_line + (own_nl u_afterCr p1)) = u_line from by simp [own_nl, own_nc, own_pcr, hb3_1, hb9_35, hb57_103]]; exact f110), (by rw [show (own_nc u_column p1) = (u_column + (1 : Int32)) from by simp [own_nl, own_nc, own_pcr, hb3_1, hb9_35, hb57_103]]; exact f111), (by rw [show (own_pcr p1) = (0 : Int32) from by simp [own_nl, own_nc, own_pcr, hb3_1, hb9_35, hb57_103]]; exact f112), f113⟩
def own_Q_own_compare (Z : State) (p0 : Int32) (p1 : Int32) (h0 : Heap) (n0 : Nat) : Option Value → Heap → List Loc → Prop := fun v h L => v = some (.int (own_cmp p0 p1)) ∧ Fr n0 L ∧ h = h0
theorem own_ef_own_compare (m : MethodId) (x0 : Int32) (x1 : Int32) : entryFrame m #[(.int x0), (.int x1)] 2 = mkF m 0 #[.val (.int x0), .val (.int x1)] [] := by first | (simp [entryFrame, mkF, argsToLocals, Value.category]; done) | rfl
set_option maxRecDepth 65536 in
set_option maxHeartbeats 40000000 in
theorem own_compare (l : Launch) (Z : State) (a0 : Array Value) (hw : ∀ d ∈ tables_1, d.before a0 Z = true) (ws : List Jvm.Cond) (p0 : Int32) (p1 : Int32) (h0 : Heap) (n0 : Nat) :
    MetFree l (⟨"java/lang/Integer", "compare", "(II)I"⟩ : MethodName) (head1 (Jvm.Cond.code (⟨"java/lang/Integer", "compare", "(II)I"⟩ : MethodName) jdk_33_method_40_code 2 (some .int) :: ws) ({ frames := 0, cells := 0, slots := 0, locals := 0 } : Room)) (fun a U => a = #[(.int p0), (.int p1)] ∧ Z.Warmed39 U.vm ∧ U.heap = h0) (fun _ _ _ _ _ => True) (fun _ U o U' => ∃ v L, o = .returned v ∧ (own_Q_own_compare Z p0 p1 h0 n0) v U'.heap L ∧ FrameEnd U o U' L ({ frames := 0, cells := 0, slots := 0, locals := 0 } : Room).cells ({ frames := 0, cells := 0, slots := 0, locals := 0 } : Room).slots) := by
  refine MetFree.of_bodySF (plainFor_of_name own_pn2) hisR ?_
  intro p e s m args below meth c s₁ Bd hml0 hP hK
  obtain ⟨rfl, hZ, hh⟩ := hP
  have hx := Bd.exec
  have hby := Bd.bytes
  have hml : c.maxLocals = 2 := hml0
  have hown : s.vm.findClass "java/lang/Integer" = some m.cls := findClass_of_methodNamed Bd.named
  have hnm := (name_of_methodNamed Bd.named Bd.method).1
  have hlk : meth.locks = false := BodyLoose.notSynchronized Bd
  have X0 : Stand p l e ({ frames := 0, cells := 0, slots := 0, locals := 0 } : Room) s m #[(.int p0), (.int p1)] below meth c s₁ [] 0 0 := Stand.of_body Bd
  have e0 : s₁.heap = h0 := by rw [← hh, Bd.state]; rfl
  have N0 := Fr.nil n0
  show own_Ends p e below s (own_Q_own_compare Z p0 p1 h0 n0) ({ frames := 0, cells := 0, slots := 0, locals := 0 } : Room).cells ({ frames := 0, cells := 0, slots := 0, locals := 0 } : Room).slots _
  refine own_by (V := s₁.setTop (mkF m 0 #[.val (.int p0), .val (.int p1)] [])) (fun t k => castTop (own_ef_own_compare m p0 p1) k) ?_
  refine own_by (V := s₁.setTop (mkF m 1 #[.val (.int p0), .val (.int p1)] [(.int p0)])) (fun t k => XS.iloadN X0.here hx rfl (hb hby own_d_jdk_33_40_0) rfl  k) ?_
  refine own_by (V := s₁.setTop (mkF m 2 #[.val (.int p0), .val (.int p1)] [(.int p1), (.int p0)])) (fun t k => XS.iloadN X0.here hx rfl (hb hby own_d_jdk_33_40_1) rfl  k) ?_
  by_cases hb2_1 : p0 < p1
  · refine own_by (V := s₁.setTop (mkF m 5 #[.val (.int p0), .val (.int p1)] [])) (fun t k => XS.icmpNo X0.here hx rfl (hb hby own_d_jdk_33_40_2) rfl (tlt hb2_1).2.1 k) ?_
    refine own_by (V := s₁.setTop (mkF m 6 #[.val (.int p0), .val (.int p1)] [(.int (-1 : Int32))])) (fun t k => XS.iconst X0.here hx rfl (hb hby own_d_jdk_33_40_5) k) ?_
    refine own_by (V := s₁.setTop (mkF m 19 #[.val (.int p0), .val (.int p1)] [(.int (-1 : Int32))])) (fun t k => XS.goto X0.here hx rfl (pc0 := 6) (pc' := 19) rfl (hb hby own_d_jdk_33_40_6) (by decide) (by decide) k) ?_
    refine own_retI X0 hx hlk e0 Bd.returns (hb hby own_d_jdk_33_40_19) ?_ (by decide) (by decide)
    exact ⟨congrArg (fun z => some (Value.int z)) (show (-1 : Int32) = (own_cmp p0 p1) from by (unfold own_cmp; rw [if_pos hb2_1])), N0, rfl⟩
  · refine own_by (V := s₁.setTop (mkF m 9 #[.val (.int p0), .val (.int p1)] [])) (fun t k => XS.icmpYes X0.here hx rfl (pc0 := 2) (pc' := 9) rfl (hb hby own_d_jdk_33_40_2) rfl (flt hb2_1).2.1 (by decide) (by decide) k) ?_
    refine own_by (V := s₁.setTop (mkF m 10 #[.val (.int p0), .val (.int p1)] [(.int p0)])) (fun t k => XS.iloadN X0.here hx rfl (hb hby own_d_jdk_33_40_9) rfl  k) ?_
    refine own_by (V := s₁.setTop (mkF m 11 #[.val (.int p0), .val (.int p1)] [(.int p1), (.int p0)])) (fun t k => XS.iloadN X0.here hx rfl (hb hby own_d_jdk_33_40_10) rfl  k) ?_
    by_cases hb11_2 : p0 = p1
    · refine own_by (V := s₁.setTop (mkF m 14 #[.val (.int p0), .val (.int p1)] [])) (fun t k => XS.icmpNo X0.here hx rfl (hb hby own_d_jdk_33_40_11) rfl (teq hb11_2).2 k) ?_
      refine own_by (V := s₁.setTop (mkF m 15 #[.val (.int p0), .val (.int p1)] [(.int (0 : Int32))])) (fun t k => XS.iconst X0.here hx rfl (hb hby own_d_jdk_33_40_14) k) ?_
      refine own_by (V := s₁.setTop (mkF m 19 #[.val (.int p0), .val (.int p1)] [(.int (0 : Int32))])) (fun t k => XS.goto X0.here hx rfl (pc0 := 15) (pc' := 19) rfl (hb hby own_d_jdk_33_40_15) (by decide) (by decide) k) ?_
      refine own_retI X0 hx hlk e0 Bd.returns (hb hby own_d_jdk_33_40_19) ?_ (by decide) (by decide)
      exact ⟨congrArg (fun z => some (Value.int z)) (show (0 : Int32) = (own_cmp p0 p1) from by (unfold own_cmp; rw [if_neg hb2_1, if_pos hb11_2])), N0, rfl⟩
    · refine own_by (V := s₁.setTop (mkF m 18 #[.val (.int p0), .val (.int p1)] [])) (fun t k => XS.icmpYes X0.here hx rfl (pc0 := 11) (pc' := 18) rfl (hb hby own_d_jdk_33_40_11) rfl (feq hb11_2).2 (by decide) (by decide) k) ?_
      refine own_by (V := s₁.setTop (mkF m 19 #[.val (.int p0), .val (.int p1)] [(.int (1 : Int32))])) (fun t k => XS.iconst X0.here hx rfl (hb hby own_d_jdk_33_40_18) k) ?_
      refine own_retI X0 hx hlk e0 Bd.returns (hb hby own_d_jdk_33_40_19) ?_ (by decide) (by decide)
      exact ⟨congrArg (fun z => some (Value.int z)) (show (1 : Int32) = (own_cmp p0 p1) from by (unfold own_cmp; rw [if_neg hb2_1, if_neg hb11_2])), N0, rfl⟩
def own_Q_own_compareTo (Z : State) (o0 : Addr) (p1 : Int32) (p2 : Int32) (ln : Int32) (col : Int32) (h0 : Heap) (n0 : Nat) : Option Value → Heap → List Loc → Prop := fun v h L => v = some (.int (own_cmp2 ln col p1 p2)) ∧ Fr n0 L ∧ h = h0
theorem own_ef_own_compareTo (m : MethodId) (x0 : Addr) (x1 : Int32) (x2 : Int32) : entryFrame m #[(.ref x0), (.int x1), (.int x2)] 4 = mkF m 0 #[.val (.ref x0), .val (.int x1), .val (.int x2), .unset] [] := by first | (simp [entryFrame, mkF, argsToLocals, Value.category]; done) | rfl
set_option maxRecDepth 65536 in
set_option maxHeartbeats 40000000 in
theorem own_compareTo (l : Launch) (Z : State) (a0 : Array Value) (hw : ∀ d ∈ tables_1, d.before a0 Z = true) (ws : List Jvm.Cond) (o0 : Addr) (p1 : Int32) (p2 : Int32) (ln : Int32) (col : Int32) (h0 : Heap) (n0 : Nat) (F1 : Fld Z h0 o0 "crossmarc/reading/Cursor" "line" "I" (.int ln)) (F2 : Fld Z h0 o0 "crossmarc/reading/Cursor" "column" "I" (.int col)) :
    MetFree l (⟨"crossmarc/reading/Cursor", "compareTo", "(II)I"⟩ : MethodName) (head1 (Jvm.Cond.code (⟨"crossmarc/reading/Cursor", "compareTo", "(II)I"⟩ : MethodName) prog_53_method_7_code 4 (some .int) :: ws) ({ frames := 1, cells := 0, slots := 0, locals := 13 } : Room)) (fun a U => a = #[(.ref o0), (.int p1), (.int p2)] ∧ Z.Warmed39 U.vm ∧ U.heap = h0) (fun _ _ _ _ _ => True) (fun _ U o U' => ∃ v L, o = .returned v ∧ (own_Q_own_compareTo Z o0 p1 p2 ln col h0 n0) v U'.heap L ∧ FrameEnd U o U' L ({ frames := 1, cells := 0, slots := 0, locals := 13 } : Room).cells ({ frames := 1, cells := 0, slots := 0, locals := 13 } : Room).slots) := by
  refine MetFree.of_bodySF (plainFor_of_name own_pn1) hisR ?_
  intro p e s m args below meth c s₁ Bd hml0 hP hK
  obtain ⟨rfl, hZ, hh⟩ := hP
  have hx := Bd.exec
  have hby := Bd.bytes
  have hml : c.maxLocals = 4 := hml0
  have hown : s.vm.findClass "crossmarc/reading/Cursor" = some m.cls := findClass_of_methodNamed Bd.named
  have hnm := (name_of_methodNamed Bd.named Bd.method).1
  have hlk : meth.locks = false := BodyLoose.notSynchronized Bd
  have X0 : Stand p l e ({ frames := 1, cells := 0, slots := 0, locals := 13 } : Room) s m #[(.ref o0), (.int p1), (.int p2)] below meth c s₁ [] 0 0 := Stand.of_body Bd
  have e0 : s₁.heap = h0 := by rw [← hh, Bd.state]; rfl
  have N0 := Fr.nil n0
  show own_Ends p e below s (own_Q_own_compareTo Z o0 p1 p2 ln col h0 n0) ({ frames := 1, cells := 0, slots := 0, locals := 13 } : Room).cells ({ frames := 1, cells := 0, slots := 0, locals := 13 } : Room).slots _
  refine own_by (V := s₁.setTop (mkF m 0 #[.val (.ref o0), .val (.int p1), .val (.int p2), .unset] [])) (fun t k => castTop (own_ef_own_compareTo m o0 p1 p2) k) ?_
  refine own_by (V := s₁.setTop (mkF m 1 #[.val (.ref o0), .val (.int p1), .val (.int p2), .unset] [(.ref o0)])) (fun t k => XS.aloadN X0.here hx rfl (hb hby own_d_prog_53_7_0) rfl rfl k) ?_
  obtain ⟨T1, X1, e1, st1⟩ := getF X0 hx hZ hown (host := "") (Or.inl (hw _ (List.mem_of_getElem? (i := 25) rfl))) Via.refl e0 F1 (g := (mkF m 1 #[.val (.ref o0), .val (.int p1), .val (.int p2), .unset] [(.ref o0)])) rfl rfl (hb hby own_d_prog_53_7_1)
  refine own_by (V := T1.setTop (mkF m 4 #[.val (.ref o0), .val (.int p1), .val (.int p2), .unset] [(.int ln)])) st1 ?_
  refine own_by (V := T1.setTop (mkF m 5 #[.val (.ref o0), .val (.int p1), .val (.int p2), .unset] [(.int p1), (.int ln)])) (fun t k => XS.iloadN X1.here hx rfl (hb hby own_d_prog_53_7_4) rfl  k) ?_
  obtain ⟨_, _, ⟨T2, Lq2, kq2, nq2⟩, -, X2, ⟨Lc2, hQ2, lq2, yq2, zq2⟩, st2⟩ := Jvm.LawKit.callS X1 hx (y := (⟨"java/lang/Integer", "compare", "(II)I"⟩ : MethodName)) hown (mvT hZ (hw _ (List.mem_of_getElem? (i := 54) rfl))) (mvT hZ (hw _ (List.mem_of_getElem? (i := 55) rfl))) (mvT hZ (hw _ (List.mem_of_getElem? (i := 56) rfl))) (mvT hZ (hw _ (List.mem_of_getElem? (i := 57) rfl))) (by decide) (backOf (W := 0) (own_compare l Z a0 hw [] ln p1 h0 n0) hZ (hw _ (List.mem_of_getElem? (i := 57) rfl)) (hw _ (List.mem_of_getElem? (i := 56) rfl)) (by decide) (by decide)) (g := (mkF m 5 #[.val (.ref o0), .val (.int p1), .val (.int p2), .unset] [(.int p1), (.int ln)])) rfl (by rw [hml]; rfl) (argsL := [(.int ln), (.int p1)]) (rest := []) (lenOf own_pd0 rfl) rfl (by show 2 * 0 + _ ≤ _; exact Nat.le_of_eq rfl) (hb hby own_d_prog_53_7_5) (fun _ _ => ⟨rfl, e1, (by decide : 0 + 0 ≤ _), (by decide : 0 + 0 ≤ _)⟩)
  dsimp only [Pt.U, Pt.locs, Pt.cells, Pt.slots] at X2 lq2 yq2 zq2 st2 hQ2
  subst lq2 yq2 zq2
  obtain ⟨rfl, N2q, e2⟩ := hQ2
  have N2 := Fr.app N0 N2q
  refine own_by (V := T2.setTop (mkF m 8 #[.val (.ref o0), .val (.int p1), .val (.int p2), .unset] [(.int (own_cmp ln p1))])) st2 ?_
  refine own_by (V := T2.setTop (mkF m 9 #[.val (.ref o0), .val (.int p1), .val (.int p2), .val (.int (own_cmp ln p1))] [])) (fun t k => XS.istoreN X2.here hx rfl (hb hby own_d_prog_53_7_8) rfl (l' := #[.val (.ref o0), .val (.int p1), .val (.int p2), .val (.int (own_cmp ln p1))]) rfl k) ?_
  refine own_by (V := T2.setTop (mkF m 10 #[.val (.ref o0), .val (.int p1), .val (.int p2), .val (.int (own_cmp ln p1))] [(.int (own_cmp ln p1))])) (fun t k => XS.iloadN X2.here hx rfl (hb hby own_d_prog_53_7_9) rfl  k) ?_
  by_cases hb10_3 : (own_cmp ln p1) = (0 : Int32)
  · refine own_by (V := T2.setTop (mkF m 17 #[.val (.ref o0), .val (.int p1), .val (.int p2), .val (.int (own_cmp ln p1))] [])) (fun t k => XS.ifYes X2.here hx rfl (pc0 := 10) (pc' := 17) rfl (hb hby own_d_prog_53_7_10) rfl ((if0 _ _).trans (teq hb10_3).1) (by decide) (by decide) k) ?_
    refine own_by (V := T2.setTop (mkF m 18 #[.val (.ref o0), .val (.int p1), .val (.int p2), .val (.int (own_cmp ln p1))] [(.ref o0)])) (fun t k => XS.aloadN X2.here hx rfl (hb hby own_d_prog_53_7_17) rfl rfl k) ?_
    obtain ⟨T4, X4, e4, st4⟩ := getF X2 hx hZ hown (host := "") (Or.inl (hw _ (List.mem_of_getElem? (i := 27) rfl))) Via.refl e2 F2 (g := (mkF m 18 #[.val (.ref o0), .val (.int p1), .val (.int p2), .val (.int (own_cmp ln p1))] [(.ref o0)])) rfl rfl (hb hby own_d_prog_53_7_18)
    refine own_by (V := T4.setTop (mkF m 21 #[.val (.ref o0), .val (.int p1), .val (.int p2), .val (.int (own_cmp ln p1))] [(.int col)])) st4 ?_
    refine own_by (V := T4.setTop (mkF m 22 #[.val (.ref o0), .val (.int p1), .val (.int p2), .val (.int (own_cmp ln p1))] [(.int p2), (.int col)])) (fun t k => XS.iloadN X4.here hx rfl (hb hby own_d_prog_53_7_21) rfl  k) ?_
    obtain ⟨_, _, ⟨T5, Lq5, kq5, nq5⟩, -, X5, ⟨Lc5, hQ5, lq5, yq5, zq5⟩, st5⟩ := Jvm.LawKit.callS X4 hx (y := (⟨"java/lang/Integer", "compare", "(II)I"⟩ : MethodName)) hown (mvT hZ (hw _ (List.mem_of_getElem? (i := 54) rfl))) (mvT hZ (hw _ (List.mem_of_getElem? (i := 55) rfl))) (mvT hZ (hw _ (List.mem_of_getElem? (i := 56) rfl))) (mvT hZ (hw _ (List.mem_of_getElem? (i := 57) rfl))) (by decide) (backOf (W := 0) (own_compare l Z a0 hw [] col p2 h0 n0) hZ (hw _ (List.mem_of_getElem? (i := 57) rfl)) (hw _ (List.mem_of_getElem? (i := 56) rfl)) (by decide) (by decide)) (g := (mkF m 22 #[.val (.ref o0), .val (.int p1), .val (.int p2), .val (.int (own_cmp ln p1))] [(.int p2), (.int col)])) rfl (by rw [hml]; rfl) (argsL := [(.int col), (.int p2)]) (rest := []) (lenOf own_pd0 rfl) rfl (by show 2 * 0 + _ ≤ _; exact Nat.le_of_eq rfl) (hb hby own_d_prog_53_7_22) (fun _ _ => ⟨rfl, e4, (by decide : 0 + 0 ≤ _), (by decide : 0 + 0 ≤ _)⟩)
    dsimp only [Pt.U, Pt.locs, Pt.cells, Pt.slots] at X5 lq5 yq5 zq5 st5 hQ5
    subst lq5 yq5 zq5
    obtain ⟨rfl, N5q, e5⟩ := hQ5
    have N5 := Fr.app N2 N5q
    refine own_by (V := T5.setTop (mkF m 25 #[.val (.ref o0), .val (.int p1), .val (.int p2), .val (.int (own_cmp ln p1))] [(.int (own_cmp col p2))])) st5 ?_
    refine own_retI X5 hx hlk e5 Bd.returns (hb hby own_d_prog_53_7_25) ?_ (by decide) (by decide)
    exact ⟨congrArg (fun z => some (Value.int z)) (show (own_cmp col p2) = (own_cmp2 ln col p1 p2) from by exact (if_pos hb10_3).symm), N5, rfl⟩
  · refine own_by (V := T2.setTop (mkF m 13 #[.val (.ref o0), .val (.int p1), .val (.int p2), .val (.int (own_cmp ln p1))] [])) (fun t k => XS.ifNo X2.here hx rfl (hb hby own_d_prog_53_7_10) rfl ((if0 _ _).trans (feq hb10_3).1) k) ?_
    refine own_by (V := T2.setTop (mkF m 14 #[.val (.ref o0), .val (.int p1), .val (.int p2), .val (.int (own_cmp ln p1))] [(.int (own_cmp ln p1))])) (fun t k => XS.iloadN X2.here hx rfl (hb hby own_d_prog_53_7_13) rfl  k) ?_
    refine own_by (V := T2.setTop (mkF m 25 #[.val (.ref o0), .val (.int p1), .val (.int p2), .val (.int (own_cmp ln p1))] [(.int (own_cmp ln p1))])) (fun t k => XS.goto X2.here hx rfl (pc0 := 14) (pc' := 25) rfl (hb hby own_d_prog_53_7_14) (by decide) (by decide) k) ?_
    refine own_retI X2 hx hlk e2 Bd.returns (hb hby own_d_prog_53_7_25) ?_ (by decide) (by decide)
    exact ⟨congrArg (fun z => some (Value.int z)) (show (own_cmp ln p1) = (own_cmp2 ln col p1 p2) from by exact (if_neg hb10_3).symm), N2, rfl⟩
def own_Q_own_position (Z : State) (o0 : Addr) (u : Int64) (h0 : Heap) (n0 : Nat) : Option Value → Heap → List Loc → Prop := fun v h L => v = some (.long u) ∧ Fr n0 L ∧ h = h0
theorem own_ef_own_position (m : MethodId) (x0 : Addr) : entryFrame m #[(.ref x0)] 1 = mkF m 0 #[.val (.ref x0)] [] := by first | (simp [entryFrame, mkF, argsToLocals, Value.category]; done) | rfl
set_option maxRecDepth 65536 in
set_option maxHeartbeats 40000000 in
theorem own_position (l : Launch) (Z : State) (a0 : Array Value) (hw : ∀ d ∈ tables_1, d.before a0 Z = true) (ws : List Jvm.Cond) (o0 : Addr) (u : Int64) (h0 : Heap) (n0 : Nat) (F1 : Fld Z h0 o0 "crossmarc/reading/Cursor" "position" "J" (.long u)) :
    MetFree l (⟨"crossmarc/reading/Cursor", "position", "()J"⟩ : MethodName) (head1 (Jvm.Cond.code (⟨"crossmarc/reading/Cursor", "position", "()J"⟩ : MethodName) prog_53_method_5_code 1 (some .long) :: ws) ({ frames := 0, cells := 0, slots := 0, locals := 0 } : Room)) (fun a U => a = #[(.ref o0)] ∧ Z.Warmed39 U.vm ∧ U.heap = h0) (fun _ _ _ _ _ => True) (fun _ U o U' => ∃ v L, o = .returned v ∧ (own_Q_own_position Z o0 u h0 n0) v U'.heap L ∧ FrameEnd U o U' L ({ frames := 0, cells := 0, slots := 0, locals := 0 } : Room).cells ({ frames := 0, cells := 0, slots := 0, locals := 0 } : Room).slots) := by
  refine MetFree.of_bodySF (plainFor_of_name own_pn1) hisR ?_
  intro p e s m args below meth c s₁ Bd hml0 hP hK
  obtain ⟨rfl, hZ, hh⟩ := hP
  have hx := Bd.exec
  have hby := Bd.bytes
  have hml : c.maxLocals = 1 := hml0
  have hown : s.vm.findClass "crossmarc/reading/Cursor" = some m.cls := findClass_of_methodNamed Bd.named
  have hnm := (name_of_methodNamed Bd.named Bd.method).1
  have hlk : meth.locks = false := BodyLoose.notSynchronized Bd
  have X0 : Stand p l e ({ frames := 0, cells := 0, slots := 0, locals := 0 } : Room) s m #[(.ref o0)] below meth c s₁ [] 0 0 := Stand.of_body Bd
  have e0 : s₁.heap = h0 := by rw [← hh, Bd.state]; rfl
  have N0 := Fr.nil n0
  show own_Ends p e below s (own_Q_own_position Z o0 u h0 n0) ({ frames := 0, cells := 0, slots := 0, locals := 0 } : Room).cells ({ frames := 0, cells := 0, slots := 0, locals := 0 } : Room).slots _
  refine own_by (V := s₁.setTop (mkF m 0 #[.val (.ref o0)] [])) (fun t k => castTop (own_ef_own_position m o0) k) ?_
  refine own_by (V := s₁.setTop (mkF m 1 #[.val (.ref o0)] [(.ref o0)])) (fun t k => XS.aloadN X0.here hx rfl (hb hby own_d_prog_53_5_0) rfl rfl k) ?_
  obtain ⟨T1, X1, e1, st1⟩ := getF X0 hx hZ hown (host := "") (Or.inl (hw _ (List.mem_of_getElem? (i := 36) rfl))) Via.refl e0 F1 (g := (mkF m 1 #[.val (.ref o0)] [(.ref o0)])) rfl rfl (hb hby own_d_prog_53_5_1)
  refine own_by (V := T1.setTop (mkF m 4 #[.val (.ref o0)] [(.long u)])) st1 ?_
  refine own_retL X1 hx hlk e1 Bd.returns (hb hby own_d_prog_53_5_4) ?_ (by decide) (by decide)
  exact ⟨congrArg (fun z => some (Value.long z)) (show u = u from by rfl), N0, rfl⟩
def own_Q_own_rm0 (Z : State) (p0 : Int32) (p1 : Int32) (p2 : Int32) (p3 : Int32) (p4 : Int32) (h0 : Heap) (n0 : Nat) : Option Value → Heap → List Loc → Prop := fun v h L => v = some (.int 1) ∧ Fr n0 L
theorem own_ef_own_rm0 (m : MethodId) (x0 : Int32) (x1 : Int32) (x2 : Int32) (x3 : Int32) (x4 : Int32) : entryFrame m #[(.int x0), (.int x1), (.int x2), (.int x3), (.int x4)] maxLocals = mkF m 0 #[.val (.int x0), .val (.int x1), .val (.int x2), .val (.int x3), .val (.int x4), .unset, .unset, .unset, .unset, .unset, .unset, .unset, .unset, .unset, .unset, .unset, .unset, .unset, .unset] [] := by first | (simp [entryFrame, mkF, argsToLocals, Value.category, maxLocals]; done) | rfl
set_option maxRecDepth 65536 in
set_option maxHeartbeats 40000000 in
theorem own_rm0 (l : Launch) (Z : State) (a0 : Array Value) (hw : ∀ d ∈ tables_1, d.before a0 Z = true) (ws : List Jvm.Cond) (p0 : Int32) (p1 : Int32) (p2 : Int32) (p3 : Int32) (p4 : Int32) (h0 : Heap) (n0 : Nat) (Z0 : n0 ≤ h0.size) (O0 : Old Z n0 h0) (w0 : Addr) (S0 : Sta Z Z.heap "crossmarc/reading/CheckedEncoding" "UTF_8" "Lcrossmarc/reading/CheckedEncoding;" (.ref w0)) :
    MetFree l x (head1 (Jvm.Cond.code x code maxLocals ret :: ws) room_1) (fun a U => a = #[(.int p0), (.int p1), (.int p2), (.int p3), (.int p4)] ∧ Z.Warmed39 U.vm ∧ U.heap = h0) (fun _ _ _ _ _ => True) (fun _ U o U' => ∃ v L, o = .returned v ∧ (own_Q_own_rm0 Z p0 p1 p2 p3 p4 h0 n0) v U'.heap L ∧ FrameEnd U o U' L room_1.cells room_1.slots) := by
  refine MetFree.of_bodySF (plainFor_of_name own_pn0) hisR ?_
  intro p e s m args below meth c s₁ Bd hml0 hP hK
  obtain ⟨rfl, hZ, hh⟩ := hP
  have hx := Bd.exec
  have hby := Bd.bytes
  have hml : c.maxLocals = 19 := hml0
  have hown : s.vm.findClass "crossmarc/reading/CursorPassPinLaw" = some m.cls := findClass_of_methodNamed Bd.named
  have hnm := (name_of_methodNamed Bd.named Bd.method).1
  have hlk : meth.locks = false := BodyLoose.notSynchronized Bd
  have X0 : Stand p l e room_1 s m #[(.int p0), (.int p1), (.int p2), (.int p3), (.int p4)] below meth c s₁ [] 0 0 := Stand.of_body Bd
  have e0 : s₁.heap = h0 := by rw [← hh, Bd.state]; rfl
  have N0 := Fr.nil n0
  show own_Ends p e below s (own_Q_own_rm0 Z p0 p1 p2 p3 p4 h0 n0) room_1.cells room_1.slots _
  refine own_by (V := s₁.setTop (mkF m 0 #[.val (.int p0), .val (.int p1), .val (.int p2), .val (.int p3), .val (.int p4), .unset, .unset, .unset, .unset, .unset, .unset, .unset, .unset, .unset, .unset, .unset, .unset, .unset, .unset] [])) (fun t k => castTop (own_ef_own_rm0 m p0 p1 p2 p3 p4) k) ?_
  refine own_by (V := s₁.setTop (mkF m 1 #[.val (.int p0), .val (.int p1), .val (.int p2), .val (.int p3), .val (.int p4), .unset, .unset, .unset, .unset, .unset, .unset, .unset, .unset, .unset, .unset, .unset, .unset, .unset, .unset] [(.int p0)])) (fun t k => XS.iloadN X0.here hx rfl (hb hby at_0) rfl  k) ?_
  refine own_by (V := s₁.setTop (mkF m 3 #[.val (.int p0), .val (.int p1), .val (.int p2), .val (.int p3), .val (.int p4), .unset, .unset, .unset, .unset, .unset, .unset, .unset, .unset, .unset, .unset, .unset, .unset, .unset, .unset] [(.int (65535 : Int32)), (.int p0)])) (Jvm.Stand.ldcInt X0 hx hown (mvT hZ (hw _ (List.mem_of_getElem? (i := 0) rfl))) (g := (mkF m 1 #[.val (.int p0), .val (.int p1), .val (.int p2), .val (.int p3), .val (.int p4), .unset, .unset, .unset, .unset, .unset, .unset, .unset, .unset, .unset, .unset, .unset, .unset, .unset, .unset] [(.int p0)])) rfl (hb hby at_1)) ?_
  refine own_by (V := s₁.setTop (mkF m 4 #[.val (.int p0), .val (.int p1), .val (.int p2), .val (.int p3), .val (.int p4), .unset, .unset, .unset, .unset, .unset, .unset, .unset, .unset, .unset, .unset, .unset, .unset, .unset, .unset] [(.int (p0 &&& (65535 : Int32)))])) (fun t k => XS.iand X0.here hx rfl (hb hby at_3) rfl k) ?_
  obtain ⟨z1, hz1⟩ : ∃ z : Int32, z = (p0 &&& (65535 : Int32)) := ⟨_, rfl⟩
  rw [← hz1]
  refine own_by (V := s₁.setTop (mkF m 6 #[.val (.int p0), .val (.int p1), .val (.int p2), .val (.int p3), .val (.int p4), .val (.int z1), .unset, .unset, .unset, .unset, .unset, .unset, .unset, .unset, .unset, .unset, .unset, .unset, .unset] [])) (fun t k => XS.istore X0.here hx rfl (hb hby at_4) rfl (l' := #[.val (.int p0), .val (.int p1), .val (.int p2), .val (.int p3), .val (.int p4), .val (.int z1), .unset, .unset, .unset, .unset, .unset, .unset, .unset, .unset, .unset, .unset, .unset, .unset, .unset]) rfl k) ?_
  refine own_by (V := s₁.setTop (mkF m 7 #[.val (.int p0), .val (.int p1), .val (.int p2), .val (.int p3), .val (.int p4), .val (.int z1), .unset, .unset, .unset, .unset, .unset, .unset, .unset, .unset, .unset, .unset, .unset, .unset, .unset] [(.int p1)])) (fun t k => XS.iloadN X0.here hx rfl (hb hby at_6) rfl  k) ?_
  refine own_by (V := s₁.setTop (mkF m 8 #[.val (.int p0), .val (.int p1), .val (.int p2), .val (.int p3), .val (.int p4), .val (.int z1), .unset, .unset, .unset, .unset, .unset, .unset, .unset, .unset, .unset, .unset, .unset, .unset, .unset] [(.int p2), (.int p1)])) (fun t k => XS.iloadN X0.here hx rfl (hb hby at_7) rfl  k) ?_
  obtain ⟨_, _, ⟨T2, Lq2, kq2, nq2⟩, -, X2, ⟨Lc2, hQ2, lq2, yq2, zq2⟩, st2⟩ := Jvm.LawKit.callS X0 hx (y := (⟨"crossmarc/reading/CursorPassPinLaw", "unit", "(II)I"⟩ : MethodName)) hown (mvT hZ (hw _ (List.mem_of_getElem? (i := 1) rfl))) (mvT hZ (hw _ (List.mem_of_getElem? (i := 2) rfl))) (mvT hZ (hw _ (List.mem_of_getElem? (i := 3) rfl))) (mvT hZ (hw _ (List.mem_of_getElem? (i := 4) rfl))) (by decide) (backOf (W := 0) (own_runit l Z a0 hw [] p1 p2 h0 n0) hZ (hw _ (List.mem_of_getElem? (i := 4) rfl)) (hw _ (List.mem_of_getElem? (i := 3) rfl)) (by decide) (by decide)) (g := (mkF m 8 #[.val (.int p0), .val (.int p1), .val (.int p2), .val (.int p3), .val (.int p4), .val (.int z1), .unset, .unset, .unset, .unset, .unset, .unset, .unset, .unset, .unset, .unset, .unset, .unset, .unset] [(.int p2), (.int p1)])) rfl (by rw [hml]; rfl) (argsL := [(.int p1), (.int p2)]) (rest := []) (lenOf own_pd0 rfl) rfl (by show 2 * 0 + _ ≤ _; exact Nat.le_of_eq rfl) (hb hby at_8) (fun _ _ => ⟨rfl, e0, (by decide : 0 + 0 ≤ _), (by decide : 0 + 0 ≤ _)⟩)
  dsimp only [Pt.U, Pt.locs, Pt.cells, Pt.slots] at X2 lq2 yq2 zq2 st2 hQ2
  subst lq2 yq2 zq2
  obtain ⟨rfl, N2q, e2⟩ := hQ2
  have N2 := Fr.app N0 N2q
  refine own_by (V := T2.setTop (mkF m 11 #[.val (.int p0), .val (.int p1), .val (.int p2), .val (.int p3), .val (.int p4), .val (.int z1), .unset, .unset, .unset, .unset, .unset, .unset, .unset, .unset, .unset, .unset, .unset, .unset, .unset] [(.int (own_unit p1 p2))])) st2 ?_
  refine own_by (V := T2.setTop (mkF m 13 #[.val (.int p0), .val (.int p1), .val (.int p2), .val (.int p3), .val (.int p4), .val (.int z1), .val (.int (own_unit p1 p2)), .unset, .unset, .unset, .unset, .unset, .unset, .unset, .unset, .unset, .unset, .unset, .unset] [])) (fun t k => XS.istore X2.here hx rfl (hb hby at_11) rfl (l' := #[.val (.int p0), .val (.int p1), .val (.int p2), .val (.int p3), .val (.int p4), .val (.int z1), .val (.int (own_unit p1 p2)), .unset, .unset, .unset, .unset, .unset, .unset, .unset, .unset, .unset, .unset, .unset, .unset]) rfl k) ?_
  refine own_by (V := T2.setTop (mkF m 14 #[.val (.int p0), .val (.int p1), .val (.int p2), .val (.int p3), .val (.int p4), .val (.int z1), .val (.int (own_unit p1 p2)), .unset, .unset, .unset, .unset, .unset, .unset, .unset, .unset, .unset, .unset, .unset, .unset] [(.int p1)])) (fun t k => XS.iloadN X2.here hx rfl (hb hby at_13) rfl  k) ?_
  refine own_by (V := T2.setTop (mkF m 15 #[.val (.int p0), .val (.int p1), .val (.int p2), .val (.int p3), .val (.int p4), .val (.int z1), .val (.int (own_unit p1 p2)), .unset, .unset, .unset, .unset, .unset, .unset, .unset, .unset, .unset, .unset, .unset, .unset] [(.int (2 : Int32)), (.int p1)])) (fun t k => XS.iconst X2.here hx rfl (hb hby at_14) k) ?_
  refine own_by (V := T2.setTop (mkF m 16 #[.val (.int p0), .val (.int p1), .val (.int p2), .val (.int p3), .val (.int p4), .val (.int z1), .val (.int (own_unit p1 p2)), .unset, .unset, .unset, .unset, .unset, .unset, .unset, .unset, .unset, .unset, .unset, .unset] [(.int ((p1.toUInt32 >>> ((2 : Int32) &&& 31).toUInt32).toInt32))])) (fun t k => XS.iushr X2.here hx rfl (hb hby at_15) rfl k) ?_
  refine own_by (V := T2.setTop (mkF m 17 #[.val (.int p0), .val (.int p1), .val (.int p2), .val (.int p3), .val (.int p4), .val (.int z1), .val (.int (own_unit p1 p2)), .unset, .unset, .unset, .unset, .unset, .unset, .unset, .unset, .unset, .unset, .unset, .unset] [(.int p3), (.int ((p1.toUInt32 >>> ((2 : Int32) &&& 31).toUInt32).toInt32))])) (fun t k => XS.iloadN X2.here hx rfl (hb hby at_16) rfl  k) ?_
  obtain ⟨_, _, ⟨T3, Lq3, kq3, nq3⟩, -, X3, ⟨Lc3, hQ3, lq3, yq3, zq3⟩, st3⟩ := Jvm.LawKit.callS X2 hx (y := (⟨"crossmarc/reading/CursorPassPinLaw", "unit", "(II)I"⟩ : MethodName)) hown (mvT hZ (hw _ (List.mem_of_getElem? (i := 1) rfl))) (mvT hZ (hw _ (List.mem_of_getElem? (i := 2) rfl))) (mvT hZ (hw _ (List.mem_of_getElem? (i := 3) rfl))) (mvT hZ (hw _ (List.mem_of_getElem? (i := 4) rfl))) (by decide) (backOf (W := 0) (own_runit l Z a0 hw [] ((p1.toUInt32 >>> ((2 : Int32) &&& 31).toUInt32).toInt32) p3 h0 n0) hZ (hw _ (List.mem_of_getElem? (i := 4) rfl)) (hw _ (List.mem_of_getElem? (i := 3) rfl)) (by decide) (by decide)) (g := (mkF m 17 #[.val (.int p0), .val (.int p1), .val (.int p2), .val (.int p3), .val (.int p4), .val (.int z1), .val (.int (own_unit p1 p2)), .unset, .unset, .unset, .unset, .unset, .unset, .unset, .unset, .unset, .unset, .unset, .unset] [(.int p3), (.int ((p1.toUInt32 >>> ((2 : Int32) &&& 31).toUInt32).toInt32))])) rfl (by rw [hml]; rfl) (argsL := [(.int ((p1.toUInt32 >>> ((2 : Int32) &&& 31).toUInt32).toInt32)), (.int p3)]) (rest := []) (lenOf own_pd0 rfl) rfl (by show 2 * 0 + _ ≤ _; exact Nat.le_of_eq rfl) (hb hby at_17) (fun _ _ => ⟨rfl, e2, (by decide : 0 + 0 ≤ _), (by decide : 0 + 0 ≤ _)⟩)
  dsimp only [Pt.U, Pt.locs, Pt.cells, Pt.slots] at X3 lq3 yq3 zq3 st3 hQ3
  subst lq3 yq3 zq3
  obtain ⟨rfl, N3q, e3⟩ := hQ3
  have N3 := Fr.app N2 N3q
  refine own_by (V := T3.setTop (mkF m 20 #[.val (.int p0), .val (.int p1), .val (.int p2), .val (.int p3), .val (.int p4), .val (.int z1), .val (.int (own_unit p1 p2)), .unset, .unset, .unset, .unset, .unset, .unset, .unset, .unset, .unset, .unset, .unset, .unset] [(.int (own_unit ((p1.toUInt32 >>> ((2 : Int32) &&& 31).toUInt32).toInt32) p3))])) st3 ?_
  obtain ⟨z4, hz4⟩ : ∃ z : Int32, z = (own_unit ((p1.toUInt32 >>> ((2 : Int32) &&& 31).toUInt32).toInt32) p3) := ⟨_, rfl⟩
  rw [← hz4]
  refine own_by (V := T3.setTop (mkF m 22 #[.val (.int p0), .val (.int p1), .val (.int p2), .val (.int p3), .val (.int p4), .val (.int z1), .val (.int (own_unit p1 p2)), .val (.int z4), .unset, .unset, .unset, .unset, .unset, .unset, .unset, .unset, .unset, .unset, .unset] [])) (fun t k => XS.istore X3.here hx rfl (hb hby at_20) rfl (l' := #[.val (.int p0), .val (.int p1), .val (.int p2), .val (.int p3), .val (.int p4), .val (.int z1), .val (.int (own_unit p1 p2)), .val (.int z4), .unset, .unset, .unset, .unset, .unset, .unset, .unset, .unset, .unset, .unset, .unset]) rfl k) ?_
  refine own_by (V := T3.setTop (mkF m 23 #[.val (.int p0), .val (.int p1), .val (.int p2), .val (.int p3), .val (.int p4), .val (.int z1), .val (.int (own_unit p1 p2)), .val (.int z4), .unset, .unset, .unset, .unset, .unset, .unset, .unset, .unset, .unset, .unset, .unset] [(.int p1)])) (fun t k => XS.iloadN X3.here hx rfl (hb hby at_22) rfl  k) ?_
  refine own_by (V := T3.setTop (mkF m 24 #[.val (.int p0), .val (.int p1), .val (.int p2), .val (.int p3), .val (.int p4), .val (.int z1), .val (.int (own_unit p1 p2)), .val (.int z4), .unset, .unset, .unset, .unset, .unset, .unset, .unset, .unset, .unset, .unset, .unset] [(.int (4 : Int32)), (.int p1)])) (fun t k => XS.iconst X3.here hx rfl (hb hby at_23) k) ?_
  refine own_by (V := T3.setTop (mkF m 25 #[.val (.int p0), .val (.int p1), .val (.int p2), .val (.int p3), .val (.int p4), .val (.int z1), .val (.int (own_unit p1 p2)), .val (.int z4), .unset, .unset, .unset, .unset, .unset, .unset, .unset, .unset, .unset, .unset, .unset] [(.int ((p1.toUInt32 >>> ((4 : Int32) &&& 31).toUInt32).toInt32))])) (fun t k => XS.iushr X3.here hx rfl (hb hby at_24) rfl k) ?_
  refine own_by (V := T3.setTop (mkF m 27 #[.val (.int p0), .val (.int p1), .val (.int p2), .val (.int p3), .val (.int p4), .val (.int z1), .val (.int (own_unit p1 p2)), .val (.int z4), .unset, .unset, .unset, .unset, .unset, .unset, .unset, .unset, .unset, .unset, .unset] [(.int p4), (.int ((p1.toUInt32 >>> ((4 : Int32) &&& 31).toUInt32).toInt32))])) (fun t k => XS.iload X3.here hx rfl (hb hby at_25) rfl  k) ?_
  obtain ⟨_, _, ⟨T5, Lq5, kq5, nq5⟩, -, X5, ⟨Lc5, hQ5, lq5, yq5, zq5⟩, st5⟩ := Jvm.LawKit.callS X3 hx (y := (⟨"crossmarc/reading/CursorPassPinLaw", "unit", "(II)I"⟩ : MethodName)) hown (mvT hZ (hw _ (List.mem_of_getElem? (i := 1) rfl))) (mvT hZ (hw _ (List.mem_of_getElem? (i := 2) rfl))) (mvT hZ (hw _ (List.mem_of_getElem? (i := 3) rfl))) (mvT hZ (hw _ (List.mem_of_getElem? (i := 4) rfl))) (by decide) (backOf (W := 0) (own_runit l Z a0 hw [] ((p1.toUInt32 >>> ((4 : Int32) &&& 31).toUInt32).toInt32) p4 h0 n0) hZ (hw _ (List.mem_of_getElem? (i := 4) rfl)) (hw _ (List.mem_of_getElem? (i := 3) rfl)) (by decide) (by decide)) (g := (mkF m 27 #[.val (.int p0), .val (.int p1), .val (.int p2), .val (.int p3), .val (.int p4), .val (.int z1), .val (.int (own_unit p1 p2)), .val (.int z4), .unset, .unset, .unset, .unset, .unset, .unset, .unset, .unset, .unset, .unset, .unset] [(.int p4), (.int ((p1.toUInt32 >>> ((4 : Int32) &&& 31).toUInt32).toInt32))])) rfl (by rw [hml]; rfl) (argsL := [(.int ((p1.toUInt32 >>> ((4 : Int32) &&& 31).toUInt32).toInt32)), (.int p4)]) (rest := []) (lenOf own_pd0 rfl) rfl (by show 2 * 0 + _ ≤ _; exact Nat.le_of_eq rfl) (hb hby at_27) (fun _ _ => ⟨rfl, e3, (by decide : 0 + 0 ≤ _), (by decide : 0 + 0 ≤ _)⟩)
  dsimp only [Pt.U, Pt.locs, Pt.cells, Pt.slots] at X5 lq5 yq5 zq5 st5 hQ5
  subst lq5 yq5 zq5
  obtain ⟨rfl, N5q, e5⟩ := hQ5
  have N5 := Fr.app N3 N5q
  refine own_by (V := T5.setTop (mkF m 30 #[.val (.int p0), .val (.int p1), .val (.int p2), .val (.int p3), .val (.int p4), .val (.int z1), .val (.int (own_unit p1 p2)), .val (.int z4), .unset, .unset, .unset, .unset, .unset, .unset, .unset, .unset, .unset, .unset, .unset] [(.int (own_unit ((p1.toUInt32 >>> ((4 : Int32) &&& 31).toUInt32).toInt32) p4))])) st5 ?_
  obtain ⟨z6, hz6⟩ : ∃ z : Int32, z = (own_unit ((p1.toUInt32 >>> ((4 : Int32) &&& 31).toUInt32).toInt32) p4) := ⟨_, rfl⟩
  rw [← hz6]
  refine own_by (V := T5.setTop (mkF m 32 #[.val (.int p0), .val (.int p1), .val (.int p2), .val (.int p3), .val (.int p4), .val (.int z1), .val (.int (own_unit p1 p2)), .val (.int z4), .val (.int z6), .unset, .unset, .unset, .unset, .unset, .unset, .unset, .unset, .unset, .unset] [])) (fun t k => XS.istore X5.here hx rfl (hb hby at_30) rfl (l' := #[.val (.int p0), .val (.int p1), .val (.int p2), .val (.int p3), .val (.int p4), .val (.int z1), .val (.int (own_unit p1 p2)), .val (.int z4), .val (.int z6), .unset, .unset, .unset, .unset, .unset, .unset, .unset, .unset, .unset, .unset]) rfl k) ?_
  obtain ⟨T7, h7, X7, e7, E7, A7, D7, -, st7⟩ := newO X5 hx hZ hown (hw _ (List.mem_of_getElem? (i := 5) rfl)) (hw _ (List.mem_of_getElem? (i := 6) rfl)) (hw _ (List.mem_of_getElem? (i := 7) rfl)) e5 (g := (mkF m 32 #[.val (.int p0), .val (.int p1), .val (.int p2), .val (.int p3), .val (.int p4), .val (.int z1), .val (.int (own_unit p1 p2)), .val (.int z4), .val (.int z6), .unset, .unset, .unset, .unset, .unset, .unset, .unset, .unset, .unset, .unset] [])) rfl (hb hby at_32) (by decide) (by decide)
  obtain ⟨b7, g7⟩ : ∃ z, z = h0.size := ⟨_, rfl⟩
  rw [← g7] at A7 D7 st7
  have O7 := O0.ext E7
  have f9 : Fld Z h7 b7 "crossmarc/reading/Cursor" "half" "I" (.int (0 : Int32)) := D7 (Or.inl (hw _ (List.mem_of_getElem? (i := 18) rfl))) (ty := .int) (by decide)
  have f10 : Fld Z h7 b7 "crossmarc/reading/Cursor" "low" "I" (.int (0 : Int32)) := D7 (Or.inl (hw _ (List.mem_of_getElem? (i := 20) rfl))) (ty := .int) (by decide)
  have f11 : Fld Z h7 b7 "crossmarc/reading/Cursor" "high" "I" (.int (0 : Int32)) := D7 (Or.inl (hw _ (List.mem_of_getElem? (i := 22) rfl))) (ty := .int) (by decide)
  have f12 : Fld Z h7 b7 "crossmarc/reading/Cursor" "encoding" "Lcrossmarc/reading/CheckedEncoding;" .null := D7 (Or.inr (hw _ (List.mem_of_getElem? (i := 24) rfl))) (ty := (.object "crossmarc/reading/CheckedEncoding")) (by decide)
  have f13 : Fld Z h7 b7 "crossmarc/reading/Cursor" "line" "I" (.int (0 : Int32)) := D7 (Or.inl (hw _ (List.mem_of_getElem? (i := 26) rfl))) (ty := .int) (by decide)
  have f14 : Fld Z h7 b7 "crossmarc/reading/Cursor" "column" "I" (.int (0 : Int32)) := D7 (Or.inl (hw _ (List.mem_of_getElem? (i := 28) rfl))) (ty := .int) (by decide)
  have f15 : Fld Z h7 b7 "crossmarc/reading/Cursor" "afterCr" "Z" (.int (0 : Int32)) := D7 (Or.inl (hw _ (List.mem_of_getElem? (i := 35) rfl))) (ty := .boolean) (by decide)
  have f16 : Fld Z h7 b7 "crossmarc/reading/Cursor" "position" "J" (.long (0 : Int64)) := D7 (Or.inl (hw _ (List.mem_of_getElem? (i := 37) rfl))) (ty := .long) (by decide)
  have gn7 : n0 ≤ b7 := Nat.le_trans Z0 (Nat.le_of_eq g7.symm)
  have Zs7 : n0 ≤ h7.size := Nat.le_trans Z0 E7.1
  refine own_by (V := T7.setTop (mkF m 35 #[.val (.int p0), .val (.int p1), .val (.int p2), .val (.int p3), .val (.int p4), .val (.int z1), .val (.int (own_unit p1 p2)), .val (.int z4), .val (.int z6), .unset, .unset, .unset, .unset, .unset, .unset, .unset, .unset, .unset, .unset] [(.ref b7)])) st7 ?_
  refine own_by (V := T7.setTop (mkF m 36 #[.val (.int p0), .val (.int p1), .val (.int p2), .val (.int p3), .val (.int p4), .val (.int z1), .val (.int (own_unit p1 p2)), .val (.int z4), .val (.int z6), .unset, .unset, .unset, .unset, .unset, .unset, .unset, .unset, .unset, .unset] [(.ref b7), (.ref b7)])) (fun t k => XS.dup X7.here hx rfl (hb hby at_35) rfl rfl k) ?_
  obtain ⟨T17, X17, e17, st17⟩ := getS2 X7 hx hZ hown (host := "") (Or.inl (hw _ (List.mem_of_getElem? (i := 8) rfl))) Via.refl e7 (S0.ext O7.2) (g := (mkF m 36 #[.val (.int p0), .val (.int p1), .val (.int p2), .val (.int p3), .val (.int p4), .val (.int z1), .val (.int (own_unit p1 p2)), .val (.int z4), .val (.int z6), .unset, .unset, .unset, .unset, .unset, .unset, .unset, .unset, .unset, .unset] [(.ref b7), (.ref b7)])) rfl (hb hby at_36)
  refine own_by (V := T17.setTop (mkF m 39 #[.val (.int p0), .val (.int p1), .val (.int p2), .val (.int p3), .val (.int p4), .val (.int z1), .val (.int (own_unit p1 p2)), .val (.int z4), .val (.int z6), .unset, .unset, .unset, .unset, .unset, .unset, .unset, .unset, .unset, .unset] [(.ref w0), (.ref b7), (.ref b7)])) st17 ?_
  obtain ⟨_, _, ⟨T18, Lq18, kq18, nq18⟩, -, X18, ⟨Lc18, hQ18, lq18, yq18, zq18⟩, st18⟩ := X17.specialBack hx (y := (⟨"crossmarc/reading/Cursor", "<init>", "(Lcrossmarc/reading/CheckedEncoding;)V"⟩ : MethodName)) rfl hown (mvT hZ (hw _ (List.mem_of_getElem? (i := 11) rfl))) (mvT hZ (hw _ (List.mem_of_getElem? (i := 12) rfl))) (mvT hZ (hw _ (List.mem_of_getElem? (i := 13) rfl))) (by decide) (backOf (W := 1) (own_cinit l Z a0 hw [] b7 w0 h7 n0 Zs7 gn7 A7 f9 f10 f11 f12 f13 f14 f15 f16) hZ (hw _ (List.mem_of_getElem? (i := 13) rfl)) (hw _ (List.mem_of_getElem? (i := 7) rfl)) (by decide) (by decide)) (g := (mkF m 39 #[.val (.int p0), .val (.int p1), .val (.int p2), .val (.int p3), .val (.int p4), .val (.int z1), .val (.int (own_unit p1 p2)), .val (.int z4), .val (.int z6), .unset, .unset, .unset, .unset, .unset, .unset, .unset, .unset, .unset, .unset] [(.ref w0), (.ref b7), (.ref b7)])) rfl (by rw [hml]; rfl) (Steps.refl _) (a := b7) (argsL := [(.ref w0)]) (rest := [(.ref b7)]) (lenOf own_pd1 rfl) rfl (by show 2 * 0 + _ ≤ _; exact Nat.le_of_eq rfl) (hb hby at_39) (fun _ _ => ⟨rfl, e17, (by decide : 1 + 0 ≤ _), (by decide : 9 + 0 ≤ _)⟩)
  dsimp only [Pt.U, Pt.locs, Pt.cells, Pt.slots] at X18 lq18 yq18 zq18 st18 hQ18
  subst lq18 yq18 zq18
  obtain ⟨rfl, N18q, Kc18, Ec18, g18_0, g18_1, g18_2, g18_3, g18_4, g18_5, g18_6, g18_7⟩ := hQ18
  have N18 := Fr.app N5 N18q
  have O18 := O7.keep Kc18 (allS gn7 all0)
  have Zs18 : n0 ≤ T18.heap.size := Nat.le_trans Zs7 Kc18.1
  refine own_by (V := T18.setTop (mkF m 42 #[.val (.int p0), .val (.int p1), .val (.int p2), .val (.int p3), .val (.int p4), .val (.int z1), .val (.int (own_unit p1 p2)), .val (.int z4), .val (.int z6), .unset, .unset, .unset, .unset, .unset, .unset, .unset, .unset, .unset, .unset] [(.ref b7)])) (fun t k => st18.trans k) ?_
  refine own_by (V := T18.setTop (mkF m 44 #[.val (.int p0), .val (.int p1), .val (.int p2), .val (.int p3), .val (.int p4), .val (.int z1), .val (.int (own_unit p1 p2)), .val (.int z4), .val (.int z6), .val (.ref b7), .unset, .unset, .unset, .unset, .unset, .unset, .unset, .unset, .unset] [])) (fun t k => XS.astore X18.here hx rfl (hb hby at_42) rfl rfl (l' := #[.val (.int p0), .val (.int p1), .val (.int p2), .val (.int p3), .val (.int p4), .val (.int z1), .val (.int (own_unit p1 p2)), .val (.int z4), .val (.int z6), .val (.ref b7), .unset, .unset, .unset, .unset, .unset, .unset, .unset, .unset, .unset]) rfl k) ?_
  refine own_by (V := T18.setTop (mkF m 46 #[.val (.int p0), .val (.int p1), .val (.int p2), .val (.int p3), .val (.int p4), .val (.int z1), .val (.int (own_unit p1 p2)), .val (.int z4), .val (.int z6), .val (.ref b7), .unset, .unset, .unset, .unset, .unset, .unset, .unset, .unset, .unset] [(.ref b7)])) (fun t k => XS.aload X18.here hx rfl (hb hby at_44) rfl rfl k) ?_
  refine own_by (V := T18.setTop (mkF m 48 #[.val (.int p0), .val (.int p1), .val (.int p2), .val (.int p3), .val (.int p4), .val (.int z1), .val (.int (own_unit p1 p2)), .val (.int z4), .val (.int z6), .val (.ref b7), .unset, .unset, .unset, .unset, .unset, .unset, .unset, .unset, .unset] [(.int z1), (.ref b7)])) (fun t k => XS.iload X18.here hx rfl (hb hby at_46) rfl  k) ?_
  obtain ⟨cq20, kq20, q20a, q20b, q20c⟩ := isOf hZ rfl Ec18
  obtain ⟨_, _, ⟨T19, Lq19, kq19, nq19⟩, -, X19, ⟨Lc19, hQ19, lq19, yq19, zq19⟩, st19⟩ := X18.virtualBack hx (y := (⟨"crossmarc/reading/Cursor", "passAsciiText", "(I)V"⟩ : MethodName)) (z := (⟨"crossmarc/reading/Cursor", "passAsciiText", "(I)V"⟩ : MethodName)) hown (mvT hZ (hw _ (List.mem_of_getElem? (i := 29) rfl))) (mvT hZ (hw _ (List.mem_of_getElem? (i := 30) rfl))) (notFace_of_selects (args := #[]) (mvT hZ (hw _ (List.mem_of_getElem? (i := 32) rfl)))) (mvT hZ (hw _ (List.mem_of_getElem? (i := 32) rfl))) (mvT hZ (hw _ (List.mem_of_getElem? (i := 31) rfl))) (by decide) (backOf (W := 0) (own_ascii l Z a0 hw [] b7 z1 (-1 : Int32) (128 : Int32) (191 : Int32) (.ref w0) (1 : Int32) (1 : Int32) (0 : Int32) (0 : Int64) T18.heap n0 Zs18 gn7 Ec18 g18_0 g18_1 g18_2 g18_3 g18_4 g18_5 g18_6 g18_7) hZ (hw _ (List.mem_of_getElem? (i := 33) rfl)) (hw _ (List.mem_of_getElem? (i := 7) rfl)) (by decide) (by decide)) q20a q20c (g := (mkF m 48 #[.val (.int p0), .val (.int p1), .val (.int p2), .val (.int p3), .val (.int p4), .val (.int z1), .val (.int (own_unit p1 p2)), .val (.int z4), .val (.int z6), .val (.ref b7), .unset, .unset, .unset, .unset, .unset, .unset, .unset, .unset, .unset] [(.int z1), (.ref b7)])) rfl (by rw [hml]; rfl) (Steps.refl _) (argsL := [(.int z1)]) (rest := []) (lenOf own_pd2 rfl) rfl (by show 2 * 0 + _ ≤ _; exact Nat.le_of_eq rfl) (hb hby at_48) (fun _ _ => ⟨rfl, rfl, (by decide : 1 + 0 ≤ _), (by decide : 9 + 0 ≤ _)⟩)
  dsimp only [Pt.U, Pt.locs, Pt.cells, Pt.slots] at X19 lq19 yq19 zq19 st19 hQ19
  subst lq19 yq19 zq19
  obtain ⟨rfl, N19q, Kc19, Ec19, g19_0, g19_1, g19_2, g19_3, g19_4, g19_5, g19_6, g19_7⟩ := hQ19
  have N19 := Fr.app N18 N19q
  have O19 := O18.keep Kc19 (allS gn7 all0)
  have Zs19 : n0 ≤ T19.heap.size := Nat.le_trans Zs18 Kc19.1
  refine own_by (V := T19.setTop (mkF m 51 #[.val (.int p0), .val (.int p1), .val (.int p2), .val (.int p3), .val (.int p4), .val (.int z1), .val (.int (own_unit p1 p2)), .val (.int z4), .val (.int z6), .val (.ref b7), .unset, .unset, .unset, .unset, .unset, .unset, .unset, .unset, .unset] [])) (fun t k => st19.trans k) ?_
  refine own_by (V := T19.setTop (mkF m 53 #[.val (.int p0), .val (.int p1), .val (.int p2), .val (.int p3), .val (.int p4), .val (.int z1), .val (.int (own_unit p1 p2)), .val (.int z4), .val (.int z6), .val (.ref b7), .unset, .unset, .unset, .unset, .unset, .unset, .unset, .unset, .unset] [(.ref b7)])) (fun t k => XS.aload X19.here hx rfl (hb hby at_51) rfl rfl k) ?_
  refine own_by (V := T19.setTop (mkF m 55 #[.val (.int p0), .val (.int p1), .val (.int p2), .val (.int p3), .val (.int p4), .val (.int z1), .val (.int (own_unit p1 p2)), .val (.int z4), .val (.int z6), .val (.ref b7), .unset, .unset, .unset, .unset, .unset, .unset, .unset, .unset, .unset] [(.int (own_unit p1 p2)), (.ref b7)])) (fun t k => XS.iload X19.here hx rfl (hb hby at_53) rfl  k) ?_
  obtain ⟨cq22, kq22, q22a, q22b, q22c⟩ := isOf hZ rfl Ec19
  obtain ⟨_, _, ⟨T21, Lq21, kq21, nq21⟩, -, X21, ⟨Lc21, hQ21, lq21, yq21, zq21⟩, st21⟩ := X19.virtualBack hx (y := (⟨"crossmarc/reading/Cursor", "pass", "(I)V"⟩ : MethodName)) (z := (⟨"crossmarc/reading/Cursor", "pass", "(I)V"⟩ : MethodName)) hown (mvT hZ (hw _ (List.mem_of_getElem? (i := 38) rfl))) (mvT hZ (hw _ (List.mem_of_getElem? (i := 39) rfl))) (notFace_of_selects (args := #[]) (mvT hZ (hw _ (List.mem_of_getElem? (i := 41) rfl)))) (mvT hZ (hw _ (List.mem_of_getElem? (i := 41) rfl))) (mvT hZ (hw _ (List.mem_of_getElem? (i := 40) rfl))) (by decide) (backOf (W := 0) (own_pass l Z a0 hw [] b7 (own_unit p1 p2) (-1 : Int32) (128 : Int32) (191 : Int32) (.ref w0) (1 : Int32) ((1 : Int32) + z1) (0 : Int32) ((0 : Int64) + (z1.toInt64)) T19.heap n0 Zs19 gn7 Ec19 g19_0 g19_1 g19_2 g19_3 g19_4 g19_5 g19_6 g19_7) hZ (hw _ (List.mem_of_getElem? (i := 42) rfl)) (hw _ (List.mem_of_getElem? (i := 7) rfl)) (by decide) (by decide)) q22a q22c (g := (mkF m 55 #[.val (.int p0), .val (.int p1), .val (.int p2), .val (.int p3), .val (.int p4), .val (.int z1), .val (.int (own_unit p1 p2)), .val (.int z4), .val (.int z6), .val (.ref b7), .unset, .unset, .unset, .unset, .unset, .unset, .unset, .unset, .unset] [(.int (own_unit p1 p2)), (.ref b7)])) rfl (by rw [hml]; rfl) (Steps.refl _) (argsL := [(.int (own_unit p1 p2))]) (rest := []) (lenOf own_pd2 rfl) rfl (by show 2 * 0 + _ ≤ _; exact Nat.le_of_eq rfl) (hb hby at_55) (fun _ _ => ⟨rfl, rfl, (by decide : 1 + 0 ≤ _), (by decide : 9 + 0 ≤ _)⟩)
  dsimp only [Pt.U, Pt.locs, Pt.cells, Pt.slots] at X21 lq21 yq21 zq21 st21 hQ21
  subst lq21 yq21 zq21
  obtain ⟨rfl, N21q, Kc21, Ec21, g21_0, g21_1, g21_2, g21_3, g21_4, g21_5, g21_6, g21_7⟩ := hQ21
  have N21 := Fr.app N19 N21q
  have O21 := O19.keep Kc21 (allS gn7 all0)
  have Zs21 : n0 ≤ T21.heap.size := Nat.le_trans Zs19 Kc21.1
  refine own_by (V := T21.setTop (mkF m 58 #[.val (.int p0), .val (.int p1), .val (.int p2), .val (.int p3), .val (.int p4), .val (.int z1), .val (.int (own_unit p1 p2)), .val (.int z4), .val (.int z6), .val (.ref b7), .unset, .unset, .unset, .unset, .unset, .unset, .unset, .unset, .unset] [])) (fun t k => st21.trans k) ?_
  refine own_by (V := T21.setTop (mkF m 59 #[.val (.int p0), .val (.int p1), .val (.int p2), .val (.int p3), .val (.int p4), .val (.int z1), .val (.int (own_unit p1 p2)), .val (.int z4), .val (.int z6), .val (.ref b7), .unset, .unset, .unset, .unset, .unset, .unset, .unset, .unset, .unset] [(.int (1 : Int32))])) (fun t k => XS.iconst X21.here hx rfl (hb hby at_58) k) ?_
  refine own_by (V := T21.setTop (mkF m 60 #[.val (.int p0), .val (.int p1), .val (.int p2), .val (.int p3), .val (.int p4), .val (.int z1), .val (.int (own_unit p1 p2)), .val (.int z4), .val (.int z6), .val (.ref b7), .unset, .unset, .unset, .unset, .unset, .unset, .unset, .unset, .unset] [(.int (0 : Int32)), (.int (1 : Int32))])) (fun t k => XS.iconst X21.here hx rfl (hb hby at_59) k) ?_
  refine own_by (V := T21.setTop (mkF m 62 #[.val (.int p0), .val (.int p1), .val (.int p2), .val (.int p3), .val (.int p4), .val (.int z1), .val (.int (own_unit p1 p2)), .val (.int z4), .val (.int z6), .val (.ref b7), .unset, .unset, .unset, .unset, .unset, .unset, .unset, .unset, .unset] [(.int (own_unit p1 p2)), (.int (0 : Int32)), (.int (1 : Int32))])) (fun t k => XS.iload X21.here hx rfl (hb hby at_60) rfl  k) ?_
  obtain ⟨_, _, ⟨T23, Lq23, kq23, nq23⟩, -, X23, ⟨Lc23, hQ23, lq23, yq23, zq23⟩, st23⟩ := Jvm.LawKit.callS X21 hx (y := (⟨"crossmarc/reading/CursorPassPinLaw", "newLines", "(ZI)I"⟩ : MethodName)) hown (mvT hZ (hw _ (List.mem_of_getElem? (i := 43) rfl))) (mvT hZ (hw _ (List.mem_of_getElem? (i := 44) rfl))) (mvT hZ (hw _ (List.mem_of_getElem? (i := 3) rfl))) (mvT hZ (hw _ (List.mem_of_getElem? (i := 45) rfl))) (by decide) (backOf (W := 1) (own_rnl l Z a0 hw [] (0 : Int32) (own_unit p1 p2) T21.heap n0) hZ (hw _ (List.mem_of_getElem? (i := 45) rfl)) (hw _ (List.mem_of_getElem? (i := 3) rfl)) (by decide) (by decide)) (g := (mkF m 62 #[.val (.int p0), .val (.int p1), .val (.int p2), .val (.int p3), .val (.int p4), .val (.int z1), .val (.int (own_unit p1 p2)), .val (.int z4), .val (.int z6), .val (.ref b7), .unset, .unset, .unset, .unset, .unset, .unset, .unset, .unset, .unset] [(.int (own_unit p1 p2)), (.int (0 : Int32)), (.int (1 : Int32))])) rfl (by rw [hml]; rfl) (argsL := [(.int (0 : Int32)), (.int (own_unit p1 p2))]) (rest := [(.int (1 : Int32))]) (lenOf own_pd3 rfl) rfl (by show 2 * 0 + _ ≤ _; exact Nat.le_of_eq rfl) (hb hby at_62) (fun _ _ => ⟨rfl, rfl, (by decide : 1 + 0 ≤ _), (by decide : 9 + 0 ≤ _)⟩)
  dsimp only [Pt.U, Pt.locs, Pt.cells, Pt.slots] at X23 lq23 yq23 zq23 st23 hQ23
  subst lq23 yq23 zq23
  obtain ⟨rfl, N23q, e23⟩ := hQ23
  have N23 := Fr.app N21 N23q
  refine own_by (V := T23.setTop (mkF m 65 #[.val (.int p0), .val (.int p1), .val (.int p2), .val (.int p3), .val (.int p4), .val (.int z1), .val (.int (own_unit p1 p2)), .val (.int z4), .val (.int z6), .val (.ref b7), .unset, .unset, .unset, .unset, .unset, .unset, .unset, .unset, .unset] [(.int (own_nl (0 : Int32) (own_unit p1 p2))), (.int (1 : Int32))])) st23 ?_
  refine own_by (V := T23.setTop (mkF m 66 #[.val (.int p0), .val (.int p1), .val (.int p2), .val (.int p3), .val (.int p4), .val (.int z1), .val (.int (own_unit p1 p2)), .val (.int z4), .val (.int z6), .val (.ref b7), .unset, .unset, .unset, .unset, .unset, .unset, .unset, .unset, .unset] [(.int ((1 : Int32) + (own_nl (0 : Int32) (own_unit p1 p2))))])) (fun t k => XS.iadd X23.here hx rfl (hb hby at_65) rfl k) ?_
  obtain ⟨z24, hz24⟩ : ∃ z : Int32, z = ((1 : Int32) + (own_nl (0 : Int32) (own_unit p1 p2))) := ⟨_, rfl⟩
  rw [← hz24]
  refine own_by (V := T23.setTop (mkF m 68 #[.val (.int p0), .val (.int p1), .val (.int p2), .val (.int p3), .val (.int p4), .val (.int z1), .val (.int (own_unit p1 p2)), .val (.int z4), .val (.int z6), .val (.ref b7), .val (.int z24), .unset, .unset, .unset, .unset, .unset, .unset, .unset, .unset] [])) (fun t k => XS.istore X23.here hx rfl (hb hby at_66) rfl (l' := #[.val (.int p0), .val (.int p1), .val (.int p2), .val (.int p3), .val (.int p4), .val (.int z1), .val (.int (own_unit p1 p2)), .val (.int z4), .val (.int z6), .val (.ref b7), .val (.int z24), .unset, .unset, .unset, .unset, .unset, .unset, .unset, .unset]) rfl k) ?_
  refine own_by (V := T23.setTop (mkF m 69 #[.val (.int p0), .val (.int p1), .val (.int p2), .val (.int p3), .val (.int p4), .val (.int z1), .val (.int (own_unit p1 p2)), .val (.int z4), .val (.int z6), .val (.ref b7), .val (.int z24), .unset, .unset, .unset, .unset, .unset, .unset, .unset, .unset] [(.int (1 : Int32))])) (fun t k => XS.iconst X23.here hx rfl (hb hby at_68) k) ?_
  refine own_by (V := T23.setTop (mkF m 71 #[.val (.int p0), .val (.int p1), .val (.int p2), .val (.int p3), .val (.int p4), .val (.int z1), .val (.int (own_unit p1 p2)), .val (.int z4), .val (.int z6), .val (.ref b7), .val (.int z24), .unset, .unset, .unset, .unset, .unset, .unset, .unset, .unset] [(.int z1), (.int (1 : Int32))])) (fun t k => XS.iload X23.here hx rfl (hb hby at_69) rfl  k) ?_
  refine own_by (V := T23.setTop (mkF m 72 #[.val (.int p0), .val (.int p1), .val (.int p2), .val (.int p3), .val (.int p4), .val (.int z1), .val (.int (own_unit p1 p2)), .val (.int z4), .val (.int z6), .val (.ref b7), .val (.int z24), .unset, .unset, .unset, .unset, .unset, .unset, .unset, .unset] [(.int ((1 : Int32) + z1))])) (fun t k => XS.iadd X23.here hx rfl (hb hby at_71) rfl k) ?_
  refine own_by (V := T23.setTop (mkF m 74 #[.val (.int p0), .val (.int p1), .val (.int p2), .val (.int p3), .val (.int p4), .val (.int z1), .val (.int (own_unit p1 p2)), .val (.int z4), .val (.int z6), .val (.ref b7), .val (.int z24), .unset, .unset, .unset, .unset, .unset, .unset, .unset, .unset] [(.int (own_unit p1 p2)), (.int ((1 : Int32) + z1))])) (fun t k => XS.iload X23.here hx rfl (hb hby at_72) rfl  k) ?_
  obtain ⟨_, _, ⟨T25, Lq25, kq25, nq25⟩, -, X25, ⟨Lc25, hQ25, lq25, yq25, zq25⟩, st25⟩ := Jvm.LawKit.callS X23 hx (y := (⟨"crossmarc/reading/CursorPassPinLaw", "nextColumn", "(II)I"⟩ : MethodName)) hown (mvT hZ (hw _ (List.mem_of_getElem? (i := 46) rfl))) (mvT hZ (hw _ (List.mem_of_getElem? (i := 47) rfl))) (mvT hZ (hw _ (List.mem_of_getElem? (i := 3) rfl))) (mvT hZ (hw _ (List.mem_of_getElem? (i := 48) rfl))) (by decide) (backOf (W := 0) (own_rnc l Z a0 hw [] ((1 : Int32) + z1) (own_unit p1 p2) T21.heap n0) hZ (hw _ (List.mem_of_getElem? (i := 48) rfl)) (hw _ (List.mem_of_getElem? (i := 3) rfl)) (by decide) (by decide)) (g := (mkF m 74 #[.val (.int p0), .val (.int p1), .val (.int p2), .val (.int p3), .val (.int p4), .val (.int z1), .val (.int (own_unit p1 p2)), .val (.int z4), .val (.int z6), .val (.ref b7), .val (.int z24), .unset, .unset, .unset, .unset, .unset, .unset, .unset, .unset] [(.int (own_unit p1 p2)), (.int ((1 : Int32) + z1))])) rfl (by rw [hml]; rfl) (argsL := [(.int ((1 : Int32) + z1)), (.int (own_unit p1 p2))]) (rest := []) (lenOf own_pd0 rfl) rfl (by show 2 * 0 + _ ≤ _; exact Nat.le_of_eq rfl) (hb hby at_74) (fun _ _ => ⟨rfl, e23, (by decide : 1 + 0 ≤ _), (by decide : 9 + 0 ≤ _)⟩)
  dsimp only [Pt.U, Pt.locs, Pt.cells, Pt.slots] at X25 lq25 yq25 zq25 st25 hQ25
  subst lq25 yq25 zq25
  obtain ⟨rfl, N25q, e25⟩ := hQ25
  have N25 := Fr.app N23 N25q
  refine own_by (V := T25.setTop (mkF m 77 #[.val (.int p0), .val (.int p1), .val (.int p2), .val (.int p3), .val (.int p4), .val (.int z1), .val (.int (own_unit p1 p2)), .val (.int z4), .val (.int z6), .val (.ref b7), .val (.int z24), .unset, .unset, .unset, .unset, .unset, .unset, .unset, .unset] [(.int (own_nc ((1 : Int32) + z1) (own_unit p1 p2)))])) st25 ?_
  obtain ⟨z26, hz26⟩ : ∃ z : Int32, z = (own_nc ((1 : Int32) + z1) (own_unit p1 p2)) := ⟨_, rfl⟩
  rw [← hz26]
  refine own_by (V := T25.setTop (mkF m 79 #[.val (.int p0), .val (.int p1), .val (.int p2), .val (.int p3), .val (.int p4), .val (.int z1), .val (.int (own_unit p1 p2)), .val (.int z4), .val (.int z6), .val (.ref b7), .val (.int z24), .val (.int z26), .unset, .unset, .unset, .unset, .unset, .unset, .unset] [])) (fun t k => XS.istore X25.here hx rfl (hb hby at_77) rfl (l' := #[.val (.int p0), .val (.int p1), .val (.int p2), .val (.int p3), .val (.int p4), .val (.int z1), .val (.int (own_unit p1 p2)), .val (.int z4), .val (.int z6), .val (.ref b7), .val (.int z24), .val (.int z26), .unset, .unset, .unset, .unset, .unset, .unset, .unset]) rfl k) ?_
  refine own_by (V := T25.setTop (mkF m 81 #[.val (.int p0), .val (.int p1), .val (.int p2), .val (.int p3), .val (.int p4), .val (.int z1), .val (.int (own_unit p1 p2)), .val (.int z4), .val (.int z6), .val (.ref b7), .val (.int z24), .val (.int z26), .unset, .unset, .unset, .unset, .unset, .unset, .unset] [(.ref b7)])) (fun t k => XS.aload X25.here hx rfl (hb hby at_79) rfl rfl k) ?_
  refine own_by (V := T25.setTop (mkF m 83 #[.val (.int p0), .val (.int p1), .val (.int p2), .val (.int p3), .val (.int p4), .val (.int z1), .val (.int (own_unit p1 p2)), .val (.int z4), .val (.int z6), .val (.ref b7), .val (.int z24), .val (.int z26), .unset, .unset, .unset, .unset, .unset, .unset, .unset] [(.int z24), (.ref b7)])) (fun t k => XS.iload X25.here hx rfl (hb hby at_81) rfl  k) ?_
  refine own_by (V := T25.setTop (mkF m 85 #[.val (.int p0), .val (.int p1), .val (.int p2), .val (.int p3), .val (.int p4), .val (.int z1), .val (.int (own_unit p1 p2)), .val (.int z4), .val (.int z6), .val (.ref b7), .val (.int z24), .val (.int z26), .unset, .unset, .unset, .unset, .unset, .unset, .unset] [(.int z26), (.int z24), (.ref b7)])) (fun t k => XS.iload X25.here hx rfl (hb hby at_83) rfl  k) ?_
  obtain ⟨cq28, kq28, q28a, q28b, q28c⟩ := isOf hZ e25 Ec21
  obtain ⟨_, _, ⟨T27, Lq27, kq27, nq27⟩, -, X27, ⟨Lc27, hQ27, lq27, yq27, zq27⟩, st27⟩ := X25.virtualBack hx (y := (⟨"crossmarc/reading/Cursor", "compareTo", "(II)I"⟩ : MethodName)) (z := (⟨"crossmarc/reading/Cursor", "compareTo", "(II)I"⟩ : MethodName)) hown (mvT hZ (hw _ (List.mem_of_getElem? (i := 49) rfl))) (mvT hZ (hw _ (List.mem_of_getElem? (i := 50) rfl))) (notFace_of_selects (args := #[]) (mvT hZ (hw _ (List.mem_of_getElem? (i := 52) rfl)))) (mvT hZ (hw _ (List.mem_of_getElem? (i := 52) rfl))) (mvT hZ (hw _ (List.mem_of_getElem? (i := 51) rfl))) (by decide) (backOf (W := 0) (own_compareTo l Z a0 hw [] b7 z24 z26 ((1 : Int32) + (own_nl (0 : Int32) (own_unit p1 p2))) (own_nc ((1 : Int32) + z1) (own_unit p1 p2)) T21.heap n0 g21_4 g21_5) hZ (hw _ (List.mem_of_getElem? (i := 53) rfl)) (hw _ (List.mem_of_getElem? (i := 7) rfl)) (by decide) (by decide)) q28a q28c (g := (mkF m 85 #[.val (.int p0), .val (.int p1), .val (.int p2), .val (.int p3), .val (.int p4), .val (.int z1), .val (.int (own_unit p1 p2)), .val (.int z4), .val (.int z6), .val (.ref b7), .val (.int z24), .val (.int z26), .unset, .unset, .unset, .unset, .unset, .unset, .unset] [(.int z26), (.int z24), (.ref b7)])) rfl (by rw [hml]; rfl) (Steps.refl _) (argsL := [(.int z24), (.int z26)]) (rest := []) (lenOf own_pd0 rfl) rfl (by show 2 * 0 + _ ≤ _; exact Nat.le_of_eq rfl) (hb hby at_85) (fun _ _ => ⟨rfl, e25, (by decide : 1 + 0 ≤ _), (by decide : 9 + 0 ≤ _)⟩)
  dsimp only [Pt.U, Pt.locs, Pt.cells, Pt.slots] at X27 lq27 yq27 zq27 st27 hQ27
  subst lq27 yq27 zq27
  obtain ⟨rfl, N27q, e27⟩ := hQ27
  have N27 := Fr.app N25 N27q
  refine own_by (V := T27.setTop (mkF m 88 #[.val (.int p0), .val (.int p1), .val (.int p2), .val (.int p3), .val (.int p4), .val (.int z1), .val (.int (own_unit p1 p2)), .val (.int z4), .val (.int z6), .val (.ref b7), .val (.int z24), .val (.int z26), .unset, .unset, .unset, .unset, .unset, .unset, .unset] [(.int (own_cmp2 ((1 : Int32) + (own_nl (0 : Int32) (own_unit p1 p2))) (own_nc ((1 : Int32) + z1) (own_unit p1 p2)) z24 z26))])) (fun t k => st27.trans k) ?_
  have hb88_29 : ((own_cmp2 ((1 : Int32) + (own_nl (0 : Int32) (own_unit p1 p2))) (own_nc ((1 : Int32) + z1) (own_unit p1 p2)) z24 z26) = (0 : Int32)) := by simp only [hz1, hz4, hz6, hz24, hz26]; exact own_cmp2_self _ _
  refine own_by (V := T27.setTop (mkF m 91 #[.val (.int p0), .val (.int p1), .val (.int p2), .val (.int p3), .val (.int p4), .val (.int z1), .val (.int (own_unit p1 p2)), .val (.int z4), .val (.int z6), .val (.ref b7), .val (.int z24), .val (.int z26), .unset, .unset, .unset, .unset, .unset, .unset, .unset] [])) (fun t k => XS.ifNo X27.here hx rfl (hb hby at_88) rfl ((if0 _ _).trans (teq hb88_29).2) k) ?_
  refine own_by (V := T27.setTop (mkF m 92 #[.val (.int p0), .val (.int p1), .val (.int p2), .val (.int p3), .val (.int p4), .val (.int z1), .val (.int (own_unit p1 p2)), .val (.int z4), .val (.int z6), .val (.ref b7), .val (.int z24), .val (.int z26), .unset, .unset, .unset, .unset, .unset, .unset, .unset] [(.int (1 : Int32))])) (fun t k => XS.iconst X27.here hx rfl (hb hby at_91) k) ?_
  refine own_by (V := T27.setTop (mkF m 96 #[.val (.int p0), .val (.int p1), .val (.int p2), .val (.int p3), .val (.int p4), .val (.int z1), .val (.int (own_unit p1 p2)), .val (.int z4), .val (.int z6), .val (.ref b7), .val (.int z24), .val (.int z26), .unset, .unset, .unset, .unset, .unset, .unset, .unset] [(.int (1 : Int32))])) (fun t k => XS.goto X27.here hx rfl (pc0 := 92) (pc' := 96) rfl (hb hby at_92) (by decide) (by decide) k) ?_
  refine own_by (V := T27.setTop (mkF m 98 #[.val (.int p0), .val (.int p1), .val (.int p2), .val (.int p3), .val (.int p4), .val (.int z1), .val (.int (own_unit p1 p2)), .val (.int z4), .val (.int z6), .val (.ref b7), .val (.int z24), .val (.int z26), .val (.int (1 : Int32)), .unset, .unset, .unset, .unset, .unset, .unset] [])) (fun t k => XS.istore X27.here hx rfl (hb hby at_96) rfl (l' := #[.val (.int p0), .val (.int p1), .val (.int p2), .val (.int p3), .val (.int p4), .val (.int z1), .val (.int (own_unit p1 p2)), .val (.int z4), .val (.int z6), .val (.ref b7), .val (.int z24), .val (.int z26), .val (.int (1 : Int32)), .unset, .unset, .unset, .unset, .unset, .unset]) rfl k) ?_
  refine own_by (V := T27.setTop (mkF m 100 #[.val (.int p0), .val (.int p1), .val (.int p2), .val (.int p3), .val (.int p4), .val (.int z1), .val (.int (own_unit p1 p2)), .val (.int z4), .val (.int z6), .val (.ref b7), .val (.int z24), .val (.int z26), .val (.int (1 : Int32)), .unset, .unset, .unset, .unset, .unset, .unset] [(.ref b7)])) (fun t k => XS.aload X27.here hx rfl (hb hby at_98) rfl rfl k) ?_
  refine own_by (V := T27.setTop (mkF m 102 #[.val (.int p0), .val (.int p1), .val (.int p2), .val (.int p3), .val (.int p4), .val (.int z1), .val (.int (own_unit p1 p2)), .val (.int z4), .val (.int z6), .val (.ref b7), .val (.int z24), .val (.int z26), .val (.int (1 : Int32)), .unset, .unset, .unset, .unset, .unset, .unset] [(.int z4), (.ref b7)])) (fun t k => XS.iload X27.here hx rfl (hb hby at_100) rfl  k) ?_
  obtain ⟨cq31, kq31, q31a, q31b, q31c⟩ := isOf hZ e27 Ec21
  obtain ⟨_, _, ⟨T30, Lq30, kq30, nq30⟩, -, X30, ⟨Lc30, hQ30, lq30, yq30, zq30⟩, st30⟩ := X27.virtualBack hx (y := (⟨"crossmarc/reading/Cursor", "pass", "(I)V"⟩ : MethodName)) (z := (⟨"crossmarc/reading/Cursor", "pass", "(I)V"⟩ : MethodName)) hown (mvT hZ (hw _ (List.mem_of_getElem? (i := 38) rfl))) (mvT hZ (hw _ (List.mem_of_getElem? (i := 39) rfl))) (notFace_of_selects (args := #[]) (mvT hZ (hw _ (List.mem_of_getElem? (i := 41) rfl)))) (mvT hZ (hw _ (List.mem_of_getElem? (i := 41) rfl))) (mvT hZ (hw _ (List.mem_of_getElem? (i := 40) rfl))) (by decide) (backOf (W := 0) (own_pass l Z a0 hw [] b7 z4 (-1 : Int32) (128 : Int32) (191 : Int32) (.ref w0) ((1 : Int32) + (own_nl (0 : Int32) (own_unit p1 p2))) (own_nc ((1 : Int32) + z1) (own_unit p1 p2)) (own_pcr (own_unit p1 p2)) ((0 : Int64) + (z1.toInt64)) T21.heap n0 Zs21 gn7 Ec21 g21_0 g21_1 g21_2 g21_3 g21_4 g21_5 g21_6 g21_7) hZ (hw _ (List.mem_of_getElem? (i := 42) rfl)) (hw _ (List.mem_of_getElem? (i := 7) rfl)) (by decide) (by decide)) q31a q31c (g := (mkF m 102 #[.val (.int p0), .val (.int p1), .val (.int p2), .val (.int p3), .val (.int p4), .val (.int z1), .val (.int (own_unit p1 p2)), .val (.int z4), .val (.int z6), .val (.ref b7), .val (.int z24), .val (.int z26), .val (.int (1 : Int32)), .unset, .unset, .unset, .unset, .unset, .unset] [(.int z4), (.ref b7)])) rfl (by rw [hml]; rfl) (Steps.refl _) (argsL := [(.int z4)]) (rest := []) (lenOf own_pd2 rfl) rfl (by show 2 * 0 + _ ≤ _; exact Nat.le_of_eq rfl) (hb hby at_102) (fun _ _ => ⟨rfl, e27, (by decide : 1 + 0 ≤ _), (by decide : 9 + 0 ≤ _)⟩)
  dsimp only [Pt.U, Pt.locs, Pt.cells, Pt.slots] at X30 lq30 yq30 zq30 st30 hQ30
  subst lq30 yq30 zq30
  obtain ⟨rfl, N30q, Kc30, Ec30, g30_0, g30_1, g30_2, g30_3, g30_4, g30_5, g30_6, g30_7⟩ := hQ30
  have N30 := Fr.app N27 N30q
  have O30 := O21.keep Kc30 (allS gn7 all0)
  have Zs30 : n0 ≤ T30.heap.size := Nat.le_trans Zs21 Kc30.1
  refine own_by (V := T30.setTop (mkF m 105 #[.val (.int p0), .val (.int p1), .val (.int p2), .val (.int p3), .val (.int p4), .val (.int z1), .val (.int (own_unit p1 p2)), .val (.int z4), .val (.int z6), .val (.ref b7), .val (.int z24), .val (.int z26), .val (.int (1 : Int32)), .unset, .unset, .unset, .unset, .unset, .unset] [])) (fun t k => st30.trans k) ?_
  refine own_by (V := T30.setTop (mkF m 107 #[.val (.int p0), .val (.int p1), .val (.int p2), .val (.int p3), .val (.int p4), .val (.int z1), .val (.int (own_unit p1 p2)), .val (.int z4), .val (.int z6), .val (.ref b7), .val (.int z24), .val (.int z26), .val (.int (1 : Int32)), .unset, .unset, .unset, .unset, .unset, .unset] [(.int z24)])) (fun t k => XS.iload X30.here hx rfl (hb hby at_105) rfl  k) ?_
  refine own_by (V := T30.setTop (mkF m 109 #[.val (.int p0), .val (.int p1), .val (.int p2), .val (.int p3), .val (.int p4), .val (.int z1), .val (.int (own_unit p1 p2)), .val (.int z4), .val (.int z6), .val (.ref b7), .val (.int z24), .val (.int z26), .val (.int (1 : Int32)), .unset, .unset, .unset, .unset, .unset, .unset] [(.int (own_unit p1 p2)), (.int z24)])) (fun t k => XS.iload X30.here hx rfl (hb hby at_107) rfl  k) ?_
  refine own_by (V := T30.setTop (mkF m 111 #[.val (.int p0), .val (.int p1), .val (.int p2), .val (.int p3), .val (.int p4), .val (.int z1), .val (.int (own_unit p1 p2)), .val (.int z4), .val (.int z6), .val (.ref b7), .val (.int z24), .val (.int z26), .val (.int (1 : Int32)), .unset, .unset, .unset, .unset, .unset, .unset] [(.int (13 : Int32)), (.int (own_unit p1 p2)), (.int z24)])) (fun t k => XS.bipush X30.here hx rfl (hb hby at_109) k) ?_
  have J32 : ∀ (T32 : State) (l32 : List Loc) (v1 : Int32) (X32 : Stand p l e room_1 s m #[(.int p0), (.int p1), (.int p2), (.int p3), (.int p4)] below meth c T32 l32 1 9) (e32 : T32.heap = T30.heap) (N32 : Fr n0 l32) (hv1 : v1 = own_pcr (own_unit p1 p2)), own_Ends p e below s (own_Q_own_rm0 Z p0 p1 p2 p3 p4 h0 n0) room_1.cells room_1.slots (T32.setTop (mkF m 119 #[.val (.int p0), .val (.int p1), .val (.int p2), .val (.int p3), .val (.int p4), .val (.int z1), .val (.int (own_unit p1 p2)), .val (.int z4), .val (.int z6), .val (.ref b7), .val (.int z24), .val (.int z26), .val (.int (1 : Int32)), .unset, .unset, .unset, .unset, .unset, .unset] [(.int v1), (.int z24)])) := by
    intro T32 l32 v1 X32 e32 N32 hv1
    refine own_by (V := T32.setTop (mkF m 121 #[.val (.int p0), .val (.int p1), .val (.int p2), .val (.int p3), .val (.int p4), .val (.int z1), .val (.int (own_unit p1 p2)), .val (.int z4), .val (.int z6), .val (.ref b7), .val (.int z24), .val (.int z26), .val (.int (1 : Int32)), .unset, .unset, .unset, .unset, .unset, .unset] [(.int z4), (.int v1), (.int z24)])) (fun t k => XS.iload X32.here hx rfl (hb hby at_119) rfl  k) ?_
    obtain ⟨_, _, ⟨T33, Lq33, kq33, nq33⟩, -, X33, ⟨Lc33, hQ33, lq33, yq33, zq33⟩, st33⟩ := Jvm.LawKit.callS X32 hx (y := (⟨"crossmarc/reading/CursorPassPinLaw", "newLines", "(ZI)I"⟩ : MethodName)) hown (mvT hZ (hw _ (List.mem_of_getElem? (i := 43) rfl))) (mvT hZ (hw _ (List.mem_of_getElem? (i := 44) rfl))) (mvT hZ (hw _ (List.mem_of_getElem? (i := 3) rfl))) (mvT hZ (hw _ (List.mem_of_getElem? (i := 45) rfl))) (by decide) (backOf (W := 1) (own_rnl l Z a0 hw [] v1 z4 T30.heap n0) hZ (hw _ (List.mem_of_getElem? (i := 45) rfl)) (hw _ (List.mem_of_getElem? (i := 3) rfl)) (by decide) (by decide)) (g := (mkF m 121 #[.val (.int p0), .val (.int p1), .val (.int p2), .val (.int p3), .val (.int p4), .val (.int z1), .val (.int (own_unit p1 p2)), .val (.int z4), .val (.int z6), .val (.ref b7), .val (.int z24), .val (.int z26), .val (.int (1 : Int32)), .unset, .unset, .unset, .unset, .unset, .unset] [(.int z4), (.int v1), (.int z24)])) rfl (by rw [hml]; rfl) (argsL := [(.int v1), (.int z4)]) (rest := [(.int z24)]) (lenOf own_pd3 rfl) rfl (by show 2 * 0 + _ ≤ _; exact Nat.le_of_eq rfl) (hb hby at_121) (fun _ _ => ⟨rfl, e32, (by decide : 1 + 0 ≤ _), (by decide : 9 + 0 ≤ _)⟩)
    dsimp only [Pt.U, Pt.locs, Pt.cells, Pt.slots] at X33 lq33 yq33 zq33 st33 hQ33
    subst lq33 yq33 zq33
    obtain ⟨rfl, N33q, e33⟩ := hQ33
    have N33 := Fr.app N32 N33q
    refine own_by (V := T33.setTop (mkF m 124 #[.val (.int p0), .val (.int p1), .val (.int p2), .val (.int p3), .val (.int p4), .val (.int z1), .val (.int (own_unit p1 p2)), .val (.int z4), .val (.int z6), .val (.ref b7), .val (.int z24), .val (.int z26), .val (.int (1 : Int32)), .unset, .unset, .unset, .unset, .unset, .unset] [(.int (own_nl v1 z4)), (.int z24)])) st33 ?_
    refine own_by (V := T33.setTop (mkF m 125 #[.val (.int p0), .val (.int p1), .val (.int p2), .val (.int p3), .val (.int p4), .val (.int z1), .val (.int (own_unit p1 p2)), .val (.int z4), .val (.int z6), .val (.ref b7), .val (.int z24), .val (.int z26), .val (.int (1 : Int32)), .unset, .unset, .unset, .unset, .unset, .unset] [(.int (z24 + (own_nl v1 z4)))])) (fun t k => XS.iadd X33.here hx rfl (hb hby at_124) rfl k) ?_
    obtain ⟨z34, hz34⟩ : ∃ z : Int32, z = (z24 + (own_nl v1 z4)) := ⟨_, rfl⟩
    rw [← hz34]
    refine own_by (V := T33.setTop (mkF m 127 #[.val (.int p0), .val (.int p1), .val (.int p2), .val (.int p3), .val (.int p4), .val (.int z1), .val (.int (own_unit p1 p2)), .val (.int z4), .val (.int z6), .val (.ref b7), .val (.int z24), .val (.int z26), .val (.int (1 : Int32)), .val (.int z34), .unset, .unset, .unset, .unset, .unset] [])) (fun t k => XS.istore X33.here hx rfl (hb hby at_125) rfl (l' := #[.val (.int p0), .val (.int p1), .val (.int p2), .val (.int p3), .val (.int p4), .val (.int z1), .val (.int (own_unit p1 p2)), .val (.int z4), .val (.int z6), .val (.ref b7), .val (.int z24), .val (.int z26), .val (.int (1 : Int32)), .val (.int z34), .unset, .unset, .unset, .unset, .unset]) rfl k) ?_
    refine own_by (V := T33.setTop (mkF m 129 #[.val (.int p0), .val (.int p1), .val (.int p2), .val (.int p3), .val (.int p4), .val (.int z1), .val (.int (own_unit p1 p2)), .val (.int z4), .val (.int z6), .val (.ref b7), .val (.int z24), .val (.int z26), .val (.int (1 : Int32)), .val (.int z34), .unset, .unset, .unset, .unset, .unset] [(.int z26)])) (fun t k => XS.iload X33.here hx rfl (hb hby at_127) rfl  k) ?_
    refine own_by (V := T33.setTop (mkF m 131 #[.val (.int p0), .val (.int p1), .val (.int p2), .val (.int p3), .val (.int p4), .val (.int z1), .val (.int (own_unit p1 p2)), .val (.int z4), .val (.int z6), .val (.ref b7), .val (.int z24), .val (.int z26), .val (.int (1 : Int32)), .val (.int z34), .unset, .unset, .unset, .unset, .unset] [(.int z4), (.int z26)])) (fun t k => XS.iload X33.here hx rfl (hb hby at_129) rfl  k) ?_
    obtain ⟨_, _, ⟨T35, Lq35, kq35, nq35⟩, -, X35, ⟨Lc35, hQ35, lq35, yq35, zq35⟩, st35⟩ := Jvm.LawKit.callS X33 hx (y := (⟨"crossmarc/reading/CursorPassPinLaw", "nextColumn", "(II)I"⟩ : MethodName)) hown (mvT hZ (hw _ (List.mem_of_getElem? (i := 46) rfl))) (mvT hZ (hw _ (List.mem_of_getElem? (i := 47) rfl))) (mvT hZ (hw _ (List.mem_of_getElem? (i := 3) rfl))) (mvT hZ (hw _ (List.mem_of_getElem? (i := 48) rfl))) (by decide) (backOf (W := 0) (own_rnc l Z a0 hw [] z26 z4 T30.heap n0) hZ (hw _ (List.mem_of_getElem? (i := 48) rfl)) (hw _ (List.mem_of_getElem? (i := 3) rfl)) (by decide) (by decide)) (g := (mkF m 131 #[.val (.int p0), .val (.int p1), .val (.int p2), .val (.int p3), .val (.int p4), .val (.int z1), .val (.int (own_unit p1 p2)), .val (.int z4), .val (.int z6), .val (.ref b7), .val (.int z24), .val (.int z26), .val (.int (1 : Int32)), .val (.int z34), .unset, .unset, .unset, .unset, .unset] [(.int z4), (.int z26)])) rfl (by rw [hml]; rfl) (argsL := [(.int z26), (.int z4)]) (rest := []) (lenOf own_pd0 rfl) rfl (by show 2 * 0 + _ ≤ _; exact Nat.le_of_eq rfl) (hb hby at_131) (fun _ _ => ⟨rfl, e33, (by decide : 1 + 0 ≤ _), (by decide : 9 + 0 ≤ _)⟩)
    dsimp only [Pt.U, Pt.locs, Pt.cells, Pt.slots] at X35 lq35 yq35 zq35 st35 hQ35
    subst lq35 yq35 zq35
    obtain ⟨rfl, N35q, e35⟩ := hQ35
    have N35 := Fr.app N33 N35q
    refine own_by (V := T35.setTop (mkF m 134 #[.val (.int p0), .val (.int p1), .val (.int p2), .val (.int p3), .val (.int p4), .val (.int z1), .val (.int (own_unit p1 p2)), .val (.int z4), .val (.int z6), .val (.ref b7), .val (.int z24), .val (.int z26), .val (.int (1 : Int32)), .val (.int z34), .unset, .unset, .unset, .unset, .unset] [(.int (own_nc z26 z4))])) st35 ?_
    refine own_by (V := T35.setTop (mkF m 136 #[.val (.int p0), .val (.int p1), .val (.int p2), .val (.int p3), .val (.int p4), .val (.int z1), .val (.int (own_unit p1 p2)), .val (.int z4), .val (.int z6), .val (.ref b7), .val (.int z24), .val (.int z26), .val (.int (1 : Int32)), .val (.int z34), .val (.int (own_nc z26 z4)), .unset, .unset, .unset, .unset] [])) (fun t k => XS.istore X35.here hx rfl (hb hby at_134) rfl (l' := #[.val (.int p0), .val (.int p1), .val (.int p2), .val (.int p3), .val (.int p4), .val (.int z1), .val (.int (own_unit p1 p2)), .val (.int z4), .val (.int z6), .val (.ref b7), .val (.int z24), .val (.int z26), .val (.int (1 : Int32)), .val (.int z34), .val (.int (own_nc z26 z4)), .unset, .unset, .unset, .unset]) rfl k) ?_
    refine own_by (V := T35.setTop (mkF m 138 #[.val (.int p0), .val (.int p1), .val (.int p2), .val (.int p3), .val (.int p4), .val (.int z1), .val (.int (own_unit p1 p2)), .val (.int z4), .val (.int z6), .val (.ref b7), .val (.int z24), .val (.int z26), .val (.int (1 : Int32)), .val (.int z34), .val (.int (own_nc z26 z4)), .unset, .unset, .unset, .unset] [(.ref b7)])) (fun t k => XS.aload X35.here hx rfl (hb hby at_136) rfl rfl k) ?_
    refine own_by (V := T35.setTop (mkF m 140 #[.val (.int p0), .val (.int p1), .val (.int p2), .val (.int p3), .val (.int p4), .val (.int z1), .val (.int (own_unit p1 p2)), .val (.int z4), .val (.int z6), .val (.ref b7), .val (.int z24), .val (.int z26), .val (.int (1 : Int32)), .val (.int z34), .val (.int (own_nc z26 z4)), .unset, .unset, .unset, .unset] [(.int z34), (.ref b7)])) (fun t k => XS.iload X35.here hx rfl (hb hby at_138) rfl  k) ?_
    refine own_by (V := T35.setTop (mkF m 142 #[.val (.int p0), .val (.int p1), .val (.int p2), .val (.int p3), .val (.int p4), .val (.int z1), .val (.int (own_unit p1 p2)), .val (.int z4), .val (.int z6), .val (.ref b7), .val (.int z24), .val (.int z26), .val (.int (1 : Int32)), .val (.int z34), .val (.int (own_nc z26 z4)), .unset, .unset, .unset, .unset] [(.int (own_nc z26 z4)), (.int z34), (.ref b7)])) (fun t k => XS.iload X35.here hx rfl (hb hby at_140) rfl  k) ?_
    obtain ⟨cq37, kq37, q37a, q37b, q37c⟩ := isOf hZ e35 Ec30
    obtain ⟨_, _, ⟨T36, Lq36, kq36, nq36⟩, -, X36, ⟨Lc36, hQ36, lq36, yq36, zq36⟩, st36⟩ := X35.virtualBack hx (y := (⟨"crossmarc/reading/Cursor", "compareTo", "(II)I"⟩ : MethodName)) (z := (⟨"crossmarc/reading/Cursor", "compareTo", "(II)I"⟩ : MethodName)) hown (mvT hZ (hw _ (List.mem_of_getElem? (i := 49) rfl))) (mvT hZ (hw _ (List.mem_of_getElem? (i := 50) rfl))) (notFace_of_selects (args := #[]) (mvT hZ (hw _ (List.mem_of_getElem? (i := 52) rfl)))) (mvT hZ (hw _ (List.mem_of_getElem? (i := 52) rfl))) (mvT hZ (hw _ (List.mem_of_getElem? (i := 51) rfl))) (by decide) (backOf (W := 0) (own_compareTo l Z a0 hw [] b7 z34 (own_nc z26 z4) (((1 : Int32) + (own_nl (0 : Int32) (own_unit p1 p2))) + (own_nl (own_pcr (own_unit p1 p2)) z4)) (own_nc (own_nc ((1 : Int32) + z1) (own_unit p1 p2)) z4) T30.heap n0 g30_4 g30_5) hZ (hw _ (List.mem_of_getElem? (i := 53) rfl)) (hw _ (List.mem_of_getElem? (i := 7) rfl)) (by decide) (by decide)) q37a q37c (g := (mkF m 142 #[.val (.int p0), .val (.int p1), .val (.int p2), .val (.int p3), .val (.int p4), .val (.int z1), .val (.int (own_unit p1 p2)), .val (.int z4), .val (.int z6), .val (.ref b7), .val (.int z24), .val (.int z26), .val (.int (1 : Int32)), .val (.int z34), .val (.int (own_nc z26 z4)), .unset, .unset, .unset, .unset] [(.int (own_nc z26 z4)), (.int z34), (.ref b7)])) rfl (by rw [hml]; rfl) (Steps.refl _) (argsL := [(.int z34), (.int (own_nc z26 z4))]) (rest := []) (lenOf own_pd0 rfl) rfl (by show 2 * 0 + _ ≤ _; exact Nat.le_of_eq rfl) (hb hby at_142) (fun _ _ => ⟨rfl, e35, (by decide : 1 + 0 ≤ _), (by decide : 9 + 0 ≤ _)⟩)
    dsimp only [Pt.U, Pt.locs, Pt.cells, Pt.slots] at X36 lq36 yq36 zq36 st36 hQ36
    subst lq36 yq36 zq36
    obtain ⟨rfl, N36q, e36⟩ := hQ36
    have N36 := Fr.app N35 N36q
    refine own_by (V := T36.setTop (mkF m 145 #[.val (.int p0), .val (.int p1), .val (.int p2), .val (.int p3), .val (.int p4), .val (.int z1), .val (.int (own_unit p1 p2)), .val (.int z4), .val (.int z6), .val (.ref b7), .val (.int z24), .val (.int z26), .val (.int (1 : Int32)), .val (.int z34), .val (.int (own_nc z26 z4)), .unset, .unset, .unset, .unset] [(.int (own_cmp2 (((1 : Int32) + (own_nl (0 : Int32) (own_unit p1 p2))) + (own_nl (own_pcr (own_unit p1 p2)) z4)) (own_nc (own_nc ((1 : Int32) + z1) (own_unit p1 p2)) z4) z34 (own_nc z26 z4)))])) (fun t k => st36.trans k) ?_
    have hb145_38 : ((own_cmp2 (((1 : Int32) + (own_nl (0 : Int32) (own_unit p1 p2))) + (own_nl (own_pcr (own_unit p1 p2)) z4)) (own_nc (own_nc ((1 : Int32) + z1) (own_unit p1 p2)) z4) z34 (own_nc z26 z4)) = (0 : Int32)) := by simp only [hz1, hz4, hz6, hz24, hz26, hv1, hz34]; exact own_cmp2_self _ _
    refine own_by (V := T36.setTop (mkF m 148 #[.val (.int p0), .val (.int p1), .val (.int p2), .val (.int p3), .val (.int p4), .val (.int z1), .val (.int (own_unit p1 p2)), .val (.int z4), .val (.int z6), .val (.ref b7), .val (.int z24), .val (.int z26), .val (.int (1 : Int32)), .val (.int z34), .val (.int (own_nc z26 z4)), .unset, .unset, .unset, .unset] [])) (fun t k => XS.ifNo X36.here hx rfl (hb hby at_145) rfl ((if0 _ _).trans (teq hb145_38).2) k) ?_
    refine own_by (V := T36.setTop (mkF m 149 #[.val (.int p0), .val (.int p1), .val (.int p2), .val (.int p3), .val (.int p4), .val (.int z1), .val (.int (own_unit p1 p2)), .val (.int z4), .val (.int z6), .val (.ref b7), .val (.int z24), .val (.int z26), .val (.int (1 : Int32)), .val (.int z34), .val (.int (own_nc z26 z4)), .unset, .unset, .unset, .unset] [(.int (1 : Int32))])) (fun t k => XS.iconst X36.here hx rfl (hb hby at_148) k) ?_
    refine own_by (V := T36.setTop (mkF m 153 #[.val (.int p0), .val (.int p1), .val (.int p2), .val (.int p3), .val (.int p4), .val (.int z1), .val (.int (own_unit p1 p2)), .val (.int z4), .val (.int z6), .val (.ref b7), .val (.int z24), .val (.int z26), .val (.int (1 : Int32)), .val (.int z34), .val (.int (own_nc z26 z4)), .unset, .unset, .unset, .unset] [(.int (1 : Int32))])) (fun t k => XS.goto X36.here hx rfl (pc0 := 149) (pc' := 153) rfl (hb hby at_149) (by decide) (by decide) k) ?_
    refine own_by (V := T36.setTop (mkF m 155 #[.val (.int p0), .val (.int p1), .val (.int p2), .val (.int p3), .val (.int p4), .val (.int z1), .val (.int (own_unit p1 p2)), .val (.int z4), .val (.int z6), .val (.ref b7), .val (.int z24), .val (.int z26), .val (.int (1 : Int32)), .val (.int z34), .val (.int (own_nc z26 z4)), .val (.int (1 : Int32)), .unset, .unset, .unset] [])) (fun t k => XS.istore X36.here hx rfl (hb hby at_153) rfl (l' := #[.val (.int p0), .val (.int p1), .val (.int p2), .val (.int p3), .val (.int p4), .val (.int z1), .val (.int (own_unit p1 p2)), .val (.int z4), .val (.int z6), .val (.ref b7), .val (.int z24), .val (.int z26), .val (.int (1 : Int32)), .val (.int z34), .val (.int (own_nc z26 z4)), .val (.int (1 : Int32)), .unset, .unset, .unset]) rfl k) ?_
    refine own_by (V := T36.setTop (mkF m 157 #[.val (.int p0), .val (.int p1), .val (.int p2), .val (.int p3), .val (.int p4), .val (.int z1), .val (.int (own_unit p1 p2)), .val (.int z4), .val (.int z6), .val (.ref b7), .val (.int z24), .val (.int z26), .val (.int (1 : Int32)), .val (.int z34), .val (.int (own_nc z26 z4)), .val (.int (1 : Int32)), .unset, .unset, .unset] [(.ref b7)])) (fun t k => XS.aload X36.here hx rfl (hb hby at_155) rfl rfl k) ?_
    refine own_by (V := T36.setTop (mkF m 159 #[.val (.int p0), .val (.int p1), .val (.int p2), .val (.int p3), .val (.int p4), .val (.int z1), .val (.int (own_unit p1 p2)), .val (.int z4), .val (.int z6), .val (.ref b7), .val (.int z24), .val (.int z26), .val (.int (1 : Int32)), .val (.int z34), .val (.int (own_nc z26 z4)), .val (.int (1 : Int32)), .unset, .unset, .unset] [(.int z6), (.ref b7)])) (fun t k => XS.iload X36.here hx rfl (hb hby at_157) rfl  k) ?_
    obtain ⟨cq40, kq40, q40a, q40b, q40c⟩ := isOf hZ e36 Ec30
    obtain ⟨_, _, ⟨T39, Lq39, kq39, nq39⟩, -, X39, ⟨Lc39, hQ39, lq39, yq39, zq39⟩, st39⟩ := X36.virtualBack hx (y := (⟨"crossmarc/reading/Cursor", "pass", "(I)V"⟩ : MethodName)) (z := (⟨"crossmarc/reading/Cursor", "pass", "(I)V"⟩ : MethodName)) hown (mvT hZ (hw _ (List.mem_of_getElem? (i := 38) rfl))) (mvT hZ (hw _ (List.mem_of_getElem? (i := 39) rfl))) (notFace_of_selects (args := #[]) (mvT hZ (hw _ (List.mem_of_getElem? (i := 41) rfl)))) (mvT hZ (hw _ (List.mem_of_getElem? (i := 41) rfl))) (mvT hZ (hw _ (List.mem_of_getElem? (i := 40) rfl))) (by decide) (backOf (W := 0) (own_pass l Z a0 hw [] b7 z6 (-1 : Int32) (128 : Int32) (191 : Int32) (.ref w0) (((1 : Int32) + (own_nl (0 : Int32) (own_unit p1 p2))) + (own_nl (own_pcr (own_unit p1 p2)) z4)) (own_nc (own_nc ((1 : Int32) + z1) (own_unit p1 p2)) z4) (own_pcr z4) ((0 : Int64) + (z1.toInt64)) T30.heap n0 Zs30 gn7 Ec30 g30_0 g30_1 g30_2 g30_3 g30_4 g30_5 g30_6 g30_7) hZ (hw _ (List.mem_of_getElem? (i := 42) rfl)) (hw _ (List.mem_of_getElem? (i := 7) rfl)) (by decide) (by decide)) q40a q40c (g := (mkF m 159 #[.val (.int p0), .val (.int p1), .val (.int p2), .val (.int p3), .val (.int p4), .val (.int z1), .val (.int (own_unit p1 p2)), .val (.int z4), .val (.int z6), .val (.ref b7), .val (.int z24), .val (.int z26), .val (.int (1 : Int32)), .val (.int z34), .val (.int (own_nc z26 z4)), .val (.int (1 : Int32)), .unset, .unset, .unset] [(.int z6), (.ref b7)])) rfl (by rw [hml]; rfl) (Steps.refl _) (argsL := [(.int z6)]) (rest := []) (lenOf own_pd2 rfl) rfl (by show 2 * 0 + _ ≤ _; exact Nat.le_of_eq rfl) (hb hby at_159) (fun _ _ => ⟨rfl, e36, (by decide : 1 + 0 ≤ _), (by decide : 9 + 0 ≤ _)⟩)
    dsimp only [Pt.U, Pt.locs, Pt.cells, Pt.slots] at X39 lq39 yq39 zq39 st39 hQ39
    subst lq39 yq39 zq39
    obtain ⟨rfl, N39q, Kc39, Ec39, g39_0, g39_1, g39_2, g39_3, g39_4, g39_5, g39_6, g39_7⟩ := hQ39
    have N39 := Fr.app N36 N39q
    have O39 := O30.keep Kc39 (allS gn7 all0)
    have Zs39 : n0 ≤ T39.heap.size := Nat.le_trans Zs30 Kc39.1
    refine own_by (V := T39.setTop (mkF m 162 #[.val (.int p0), .val (.int p1), .val (.int p2), .val (.int p3), .val (.int p4), .val (.int z1), .val (.int (own_unit p1 p2)), .val (.int z4), .val (.int z6), .val (.ref b7), .val (.int z24), .val (.int z26), .val (.int (1 : Int32)), .val (.int z34), .val (.int (own_nc z26 z4)), .val (.int (1 : Int32)), .unset, .unset, .unset] [])) (fun t k => st39.trans k) ?_
    refine own_by (V := T39.setTop (mkF m 164 #[.val (.int p0), .val (.int p1), .val (.int p2), .val (.int p3), .val (.int p4), .val (.int z1), .val (.int (own_unit p1 p2)), .val (.int z4), .val (.int z6), .val (.ref b7), .val (.int z24), .val (.int z26), .val (.int (1 : Int32)), .val (.int z34), .val (.int (own_nc z26 z4)), .val (.int (1 : Int32)), .unset, .unset, .unset] [(.int z34)])) (fun t k => XS.iload X39.here hx rfl (hb hby at_162) rfl  k) ?_
    refine own_by (V := T39.setTop (mkF m 166 #[.val (.int p0), .val (.int p1), .val (.int p2), .val (.int p3), .val (.int p4), .val (.int z1), .val (.int (own_unit p1 p2)), .val (.int z4), .val (.int z6), .val (.ref b7), .val (.int z24), .val (.int z26), .val (.int (1 : Int32)), .val (.int z34), .val (.int (own_nc z26 z4)), .val (.int (1 : Int32)), .unset, .unset, .unset] [(.int z4), (.int z34)])) (fun t k => XS.iload X39.here hx rfl (hb hby at_164) rfl  k) ?_
    refine own_by (V := T39.setTop (mkF m 168 #[.val (.int p0), .val (.int p1), .val (.int p2), .val (.int p3), .val (.int p4), .val (.int z1), .val (.int (own_unit p1 p2)), .val (.int z4), .val (.int z6), .val (.ref b7), .val (.int z24), .val (.int z26), .val (.int (1 : Int32)), .val (.int z34), .val (.int (own_nc z26 z4)), .val (.int (1 : Int32)), .unset, .unset, .unset] [(.int (13 : Int32)), (.int z4), (.int z34)])) (fun t k => XS.bipush X39.here hx rfl (hb hby at_166) k) ?_
    have J41 : ∀ (T41 : State) (l41 : List Loc) (v2 : Int32) (X41 : Stand p l e room_1 s m #[(.int p0), (.int p1), (.int p2), (.int p3), (.int p4)] below meth c T41 l41 1 9) (e41 : T41.heap = T39.heap) (N41 : Fr n0 l41) (hv2 : v2 = own_pcr z4), own_Ends p e below s (own_Q_own_rm0 Z p0 p1 p2 p3 p4 h0 n0) room_1.cells room_1.slots (T41.setTop (mkF m 176 #[.val (.int p0), .val (.int p1), .val (.int p2), .val (.int p3), .val (.int p4), .val (.int z1), .val (.int (own_unit p1 p2)), .val (.int z4), .val (.int z6), .val (.ref b7), .val (.int z24), .val (.int z26), .val (.int (1 : Int32)), .val (.int z34), .val (.int (own_nc z26 z4)), .val (.int (1 : Int32)), .unset, .unset, .unset] [(.int v2), (.int z34)])) := by
      intro T41 l41 v2 X41 e41 N41 hv2
      refine own_by (V := T41.setTop (mkF m 178 #[.val (.int p0), .val (.int p1), .val (.int p2), .val (.int p3), .val (.int p4), .val (.int z1), .val (.int (own_unit p1 p2)), .val (.int z4), .val (.int z6), .val (.ref b7), .val (.int z24), .val (.int z26), .val (.int (1 : Int32)), .val (.int z34), .val (.int (own_nc z26 z4)), .val (.int (1 : Int32)), .unset, .unset, .unset] [(.int z6), (.int v2), (.int z34)])) (fun t k => XS.iload X41.here hx rfl (hb hby at_176) rfl  k) ?_
      obtain ⟨_, _, ⟨T42, Lq42, kq42, nq42⟩, -, X42, ⟨Lc42, hQ42, lq42, yq42, zq42⟩, st42⟩ := Jvm.LawKit.callS X41 hx (y := (⟨"crossmarc/reading/CursorPassPinLaw", "newLines", "(ZI)I"⟩ : MethodName)) hown (mvT hZ (hw _ (List.mem_of_getElem? (i := 43) rfl))) (mvT hZ (hw _ (List.mem_of_getElem? (i := 44) rfl))) (mvT hZ (hw _ (List.mem_of_getElem? (i := 3) rfl))) (mvT hZ (hw _ (List.mem_of_getElem? (i := 45) rfl))) (by decide) (backOf (W := 1) (own_rnl l Z a0 hw [] v2 z6 T39.heap n0) hZ (hw _ (List.mem_of_getElem? (i := 45) rfl)) (hw _ (List.mem_of_getElem? (i := 3) rfl)) (by decide) (by decide)) (g := (mkF m 178 #[.val (.int p0), .val (.int p1), .val (.int p2), .val (.int p3), .val (.int p4), .val (.int z1), .val (.int (own_unit p1 p2)), .val (.int z4), .val (.int z6), .val (.ref b7), .val (.int z24), .val (.int z26), .val (.int (1 : Int32)), .val (.int z34), .val (.int (own_nc z26 z4)), .val (.int (1 : Int32)), .unset, .unset, .unset] [(.int z6), (.int v2), (.int z34)])) rfl (by rw [hml]; rfl) (argsL := [(.int v2), (.int z6)]) (rest := [(.int z34)]) (lenOf own_pd3 rfl) rfl (by show 2 * 0 + _ ≤ _; exact Nat.le_of_eq rfl) (hb hby at_178) (fun _ _ => ⟨rfl, e41, (by decide : 1 + 0 ≤ _), (by decide : 9 + 0 ≤ _)⟩)
      dsimp only [Pt.U, Pt.locs, Pt.cells, Pt.slots] at X42 lq42 yq42 zq42 st42 hQ42
      subst lq42 yq42 zq42
      obtain ⟨rfl, N42q, e42⟩ := hQ42
      have N42 := Fr.app N41 N42q
      refine own_by (V := T42.setTop (mkF m 181 #[.val (.int p0), .val (.int p1), .val (.int p2), .val (.int p3), .val (.int p4), .val (.int z1), .val (.int (own_unit p1 p2)), .val (.int z4), .val (.int z6), .val (.ref b7), .val (.int z24), .val (.int z26), .val (.int (1 : Int32)), .val (.int z34), .val (.int (own_nc z26 z4)), .val (.int (1 : Int32)), .unset, .unset, .unset] [(.int (own_nl v2 z6)), (.int z34)])) st42 ?_
      refine own_by (V := T42.setTop (mkF m 182 #[.val (.int p0), .val (.int p1), .val (.int p2), .val (.int p3), .val (.int p4), .val (.int z1), .val (.int (own_unit p1 p2)), .val (.int z4), .val (.int z6), .val (.ref b7), .val (.int z24), .val (.int z26), .val (.int (1 : Int32)), .val (.int z34), .val (.int (own_nc z26 z4)), .val (.int (1 : Int32)), .unset, .unset, .unset] [(.int (z34 + (own_nl v2 z6)))])) (fun t k => XS.iadd X42.here hx rfl (hb hby at_181) rfl k) ?_
      obtain ⟨z43, hz43⟩ : ∃ z : Int32, z = (z34 + (own_nl v2 z6)) := ⟨_, rfl⟩
      rw [← hz43]
      refine own_by (V := T42.setTop (mkF m 184 #[.val (.int p0), .val (.int p1), .val (.int p2), .val (.int p3), .val (.int p4), .val (.int z1), .val (.int (own_unit p1 p2)), .val (.int z4), .val (.int z6), .val (.ref b7), .val (.int z24), .val (.int z26), .val (.int (1 : Int32)), .val (.int z34), .val (.int (own_nc z26 z4)), .val (.int (1 : Int32)), .val (.int z43), .unset, .unset] [])) (fun t k => XS.istore X42.here hx rfl (hb hby at_182) rfl (l' := #[.val (.int p0), .val (.int p1), .val (.int p2), .val (.int p3), .val (.int p4), .val (.int z1), .val (.int (own_unit p1 p2)), .val (.int z4), .val (.int z6), .val (.ref b7), .val (.int z24), .val (.int z26), .val (.int (1 : Int32)), .val (.int z34), .val (.int (own_nc z26 z4)), .val (.int (1 : Int32)), .val (.int z43), .unset, .unset]) rfl k) ?_
      refine own_by (V := T42.setTop (mkF m 186 #[.val (.int p0), .val (.int p1), .val (.int p2), .val (.int p3), .val (.int p4), .val (.int z1), .val (.int (own_unit p1 p2)), .val (.int z4), .val (.int z6), .val (.ref b7), .val (.int z24), .val (.int z26), .val (.int (1 : Int32)), .val (.int z34), .val (.int (own_nc z26 z4)), .val (.int (1 : Int32)), .val (.int z43), .unset, .unset] [(.int (own_nc z26 z4))])) (fun t k => XS.iload X42.here hx rfl (hb hby at_184) rfl  k) ?_
      refine own_by (V := T42.setTop (mkF m 188 #[.val (.int p0), .val (.int p1), .val (.int p2), .val (.int p3), .val (.int p4), .val (.int z1), .val (.int (own_unit p1 p2)), .val (.int z4), .val (.int z6), .val (.ref b7), .val (.int z24), .val (.int z26), .val (.int (1 : Int32)), .val (.int z34), .val (.int (own_nc z26 z4)), .val (.int (1 : Int32)), .val (.int z43), .unset, .unset] [(.int z6), (.int (own_nc z26 z4))])) (fun t k => XS.iload X42.here hx rfl (hb hby at_186) rfl  k) ?_
      obtain ⟨_, _, ⟨T44, Lq44, kq44, nq44⟩, -, X44, ⟨Lc44, hQ44, lq44, yq44, zq44⟩, st44⟩ := Jvm.LawKit.callS X42 hx (y := (⟨"crossmarc/reading/CursorPassPinLaw", "nextColumn", "(II)I"⟩ : MethodName)) hown (mvT hZ (hw _ (List.mem_of_getElem? (i := 46) rfl))) (mvT hZ (hw _ (List.mem_of_getElem? (i := 47) rfl))) (mvT hZ (hw _ (List.mem_of_getElem? (i := 3) rfl))) (mvT hZ (hw _ (List.mem_of_getElem? (i := 48) rfl))) (by decide) (backOf (W := 0) (own_rnc l Z a0 hw [] (own_nc z26 z4) z6 T39.heap n0) hZ (hw _ (List.mem_of_getElem? (i := 48) rfl)) (hw _ (List.mem_of_getElem? (i := 3) rfl)) (by decide) (by decide)) (g := (mkF m 188 #[.val (.int p0), .val (.int p1), .val (.int p2), .val (.int p3), .val (.int p4), .val (.int z1), .val (.int (own_unit p1 p2)), .val (.int z4), .val (.int z6), .val (.ref b7), .val (.int z24), .val (.int z26), .val (.int (1 : Int32)), .val (.int z34), .val (.int (own_nc z26 z4)), .val (.int (1 : Int32)), .val (.int z43), .unset, .unset] [(.int z6), (.int (own_nc z26 z4))])) rfl (by rw [hml]; rfl) (argsL := [(.int (own_nc z26 z4)), (.int z6)]) (rest := []) (lenOf own_pd0 rfl) rfl (by show 2 * 0 + _ ≤ _; exact Nat.le_of_eq rfl) (hb hby at_188) (fun _ _ => ⟨rfl, e42, (by decide : 1 + 0 ≤ _), (by decide : 9 + 0 ≤ _)⟩)
      dsimp only [Pt.U, Pt.locs, Pt.cells, Pt.slots] at X44 lq44 yq44 zq44 st44 hQ44
      subst lq44 yq44 zq44
      obtain ⟨rfl, N44q, e44⟩ := hQ44
      have N44 := Fr.app N42 N44q
      refine own_by (V := T44.setTop (mkF m 191 #[.val (.int p0), .val (.int p1), .val (.int p2), .val (.int p3), .val (.int p4), .val (.int z1), .val (.int (own_unit p1 p2)), .val (.int z4), .val (.int z6), .val (.ref b7), .val (.int z24), .val (.int z26), .val (.int (1 : Int32)), .val (.int z34), .val (.int (own_nc z26 z4)), .val (.int (1 : Int32)), .val (.int z43), .unset, .unset] [(.int (own_nc (own_nc z26 z4) z6))])) st44 ?_
      obtain ⟨z45, hz45⟩ : ∃ z : Int32, z = (own_nc (own_nc z26 z4) z6) := ⟨_, rfl⟩
      rw [← hz45]
      refine own_by (V := T44.setTop (mkF m 193 #[.val (.int p0), .val (.int p1), .val (.int p2), .val (.int p3), .val (.int p4), .val (.int z1), .val (.int (own_unit p1 p2)), .val (.int z4), .val (.int z6), .val (.ref b7), .val (.int z24), .val (.int z26), .val (.int (1 : Int32)), .val (.int z34), .val (.int (own_nc z26 z4)), .val (.int (1 : Int32)), .val (.int z43), .val (.int z45), .unset] [])) (fun t k => XS.istore X44.here hx rfl (hb hby at_191) rfl (l' := #[.val (.int p0), .val (.int p1), .val (.int p2), .val (.int p3), .val (.int p4), .val (.int z1), .val (.int (own_unit p1 p2)), .val (.int z4), .val (.int z6), .val (.ref b7), .val (.int z24), .val (.int z26), .val (.int (1 : Int32)), .val (.int z34), .val (.int (own_nc z26 z4)), .val (.int (1 : Int32)), .val (.int z43), .val (.int z45), .unset]) rfl k) ?_
      refine own_by (V := T44.setTop (mkF m 195 #[.val (.int p0), .val (.int p1), .val (.int p2), .val (.int p3), .val (.int p4), .val (.int z1), .val (.int (own_unit p1 p2)), .val (.int z4), .val (.int z6), .val (.ref b7), .val (.int z24), .val (.int z26), .val (.int (1 : Int32)), .val (.int z34), .val (.int (own_nc z26 z4)), .val (.int (1 : Int32)), .val (.int z43), .val (.int z45), .unset] [(.ref b7)])) (fun t k => XS.aload X44.here hx rfl (hb hby at_193) rfl rfl k) ?_
      refine own_by (V := T44.setTop (mkF m 197 #[.val (.int p0), .val (.int p1), .val (.int p2), .val (.int p3), .val (.int p4), .val (.int z1), .val (.int (own_unit p1 p2)), .val (.int z4), .val (.int z6), .val (.ref b7), .val (.int z24), .val (.int z26), .val (.int (1 : Int32)), .val (.int z34), .val (.int (own_nc z26 z4)), .val (.int (1 : Int32)), .val (.int z43), .val (.int z45), .unset] [(.int z43), (.ref b7)])) (fun t k => XS.iload X44.here hx rfl (hb hby at_195) rfl  k) ?_
      refine own_by (V := T44.setTop (mkF m 199 #[.val (.int p0), .val (.int p1), .val (.int p2), .val (.int p3), .val (.int p4), .val (.int z1), .val (.int (own_unit p1 p2)), .val (.int z4), .val (.int z6), .val (.ref b7), .val (.int z24), .val (.int z26), .val (.int (1 : Int32)), .val (.int z34), .val (.int (own_nc z26 z4)), .val (.int (1 : Int32)), .val (.int z43), .val (.int z45), .unset] [(.int z45), (.int z43), (.ref b7)])) (fun t k => XS.iload X44.here hx rfl (hb hby at_197) rfl  k) ?_
      obtain ⟨cq47, kq47, q47a, q47b, q47c⟩ := isOf hZ e44 Ec39
      obtain ⟨_, _, ⟨T46, Lq46, kq46, nq46⟩, -, X46, ⟨Lc46, hQ46, lq46, yq46, zq46⟩, st46⟩ := X44.virtualBack hx (y := (⟨"crossmarc/reading/Cursor", "compareTo", "(II)I"⟩ : MethodName)) (z := (⟨"crossmarc/reading/Cursor", "compareTo", "(II)I"⟩ : MethodName)) hown (mvT hZ (hw _ (List.mem_of_getElem? (i := 49) rfl))) (mvT hZ (hw _ (List.mem_of_getElem? (i := 50) rfl))) (notFace_of_selects (args := #[]) (mvT hZ (hw _ (List.mem_of_getElem? (i := 52) rfl)))) (mvT hZ (hw _ (List.mem_of_getElem? (i := 52) rfl))) (mvT hZ (hw _ (List.mem_of_getElem? (i := 51) rfl))) (by decide) (backOf (W := 0) (own_compareTo l Z a0 hw [] b7 z43 z45 ((((1 : Int32) + (own_nl (0 : Int32) (own_unit p1 p2))) + (own_nl (own_pcr (own_unit p1 p2)) z4)) + (own_nl (own_pcr z4) z6)) (own_nc (own_nc (own_nc ((1 : Int32) + z1) (own_unit p1 p2)) z4) z6) T39.heap n0 g39_4 g39_5) hZ (hw _ (List.mem_of_getElem? (i := 53) rfl)) (hw _ (List.mem_of_getElem? (i := 7) rfl)) (by decide) (by decide)) q47a q47c (g := (mkF m 199 #[.val (.int p0), .val (.int p1), .val (.int p2), .val (.int p3), .val (.int p4), .val (.int z1), .val (.int (own_unit p1 p2)), .val (.int z4), .val (.int z6), .val (.ref b7), .val (.int z24), .val (.int z26), .val (.int (1 : Int32)), .val (.int z34), .val (.int (own_nc z26 z4)), .val (.int (1 : Int32)), .val (.int z43), .val (.int z45), .unset] [(.int z45), (.int z43), (.ref b7)])) rfl (by rw [hml]; rfl) (Steps.refl _) (argsL := [(.int z43), (.int z45)]) (rest := []) (lenOf own_pd0 rfl) rfl (by show 2 * 0 + _ ≤ _; exact Nat.le_of_eq rfl) (hb hby at_199) (fun _ _ => ⟨rfl, e44, (by decide : 1 + 0 ≤ _), (by decide : 9 + 0 ≤ _)⟩)
      dsimp only [Pt.U, Pt.locs, Pt.cells, Pt.slots] at X46 lq46 yq46 zq46 st46 hQ46
      subst lq46 yq46 zq46
      obtain ⟨rfl, N46q, e46⟩ := hQ46
      have N46 := Fr.app N44 N46q
      refine own_by (V := T46.setTop (mkF m 202 #[.val (.int p0), .val (.int p1), .val (.int p2), .val (.int p3), .val (.int p4), .val (.int z1), .val (.int (own_unit p1 p2)), .val (.int z4), .val (.int z6), .val (.ref b7), .val (.int z24), .val (.int z26), .val (.int (1 : Int32)), .val (.int z34), .val (.int (own_nc z26 z4)), .val (.int (1 : Int32)), .val (.int z43), .val (.int z45), .unset] [(.int (own_cmp2 ((((1 : Int32) + (own_nl (0 : Int32) (own_unit p1 p2))) + (own_nl (own_pcr (own_unit p1 p2)) z4)) + (own_nl (own_pcr z4) z6)) (own_nc (own_nc (own_nc ((1 : Int32) + z1) (own_unit p1 p2)) z4) z6) z43 z45))])) (fun t k => st46.trans k) ?_
      have hb202_48 : ((own_cmp2 ((((1 : Int32) + (own_nl (0 : Int32) (own_unit p1 p2))) + (own_nl (own_pcr (own_unit p1 p2)) z4)) + (own_nl (own_pcr z4) z6)) (own_nc (own_nc (own_nc ((1 : Int32) + z1) (own_unit p1 p2)) z4) z6) z43 z45) = (0 : Int32)) := by simp only [hz1, hz4, hz6, hz24, hz26, hv1, hz34, hv2, hz43, hz45]; exact own_cmp2_self _ _
      refine own_by (V := T46.setTop (mkF m 205 #[.val (.int p0), .val (.int p1), .val (.int p2), .val (.int p3), .val (.int p4), .val (.int z1), .val (.int (own_unit p1 p2)), .val (.int z4), .val (.int z6), .val (.ref b7), .val (.int z24), .val (.int z26), .val (.int (1 : Int32)), .val (.int z34), .val (.int (own_nc z26 z4)), .val (.int (1 : Int32)), .val (.int z43), .val (.int z45), .unset] [])) (fun t k => XS.ifNo X46.here hx rfl (hb hby at_202) rfl ((if0 _ _).trans (teq hb202_48).2) k) ?_
      refine own_by (V := T46.setTop (mkF m 206 #[.val (.int p0), .val (.int p1), .val (.int p2), .val (.int p3), .val (.int p4), .val (.int z1), .val (.int (own_unit p1 p2)), .val (.int z4), .val (.int z6), .val (.ref b7), .val (.int z24), .val (.int z26), .val (.int (1 : Int32)), .val (.int z34), .val (.int (own_nc z26 z4)), .val (.int (1 : Int32)), .val (.int z43), .val (.int z45), .unset] [(.int (1 : Int32))])) (fun t k => XS.iconst X46.here hx rfl (hb hby at_205) k) ?_
      refine own_by (V := T46.setTop (mkF m 210 #[.val (.int p0), .val (.int p1), .val (.int p2), .val (.int p3), .val (.int p4), .val (.int z1), .val (.int (own_unit p1 p2)), .val (.int z4), .val (.int z6), .val (.ref b7), .val (.int z24), .val (.int z26), .val (.int (1 : Int32)), .val (.int z34), .val (.int (own_nc z26 z4)), .val (.int (1 : Int32)), .val (.int z43), .val (.int z45), .unset] [(.int (1 : Int32))])) (fun t k => XS.goto X46.here hx rfl (pc0 := 206) (pc' := 210) rfl (hb hby at_206) (by decide) (by decide) k) ?_
      refine own_by (V := T46.setTop (mkF m 212 #[.val (.int p0), .val (.int p1), .val (.int p2), .val (.int p3), .val (.int p4), .val (.int z1), .val (.int (own_unit p1 p2)), .val (.int z4), .val (.int z6), .val (.ref b7), .val (.int z24), .val (.int z26), .val (.int (1 : Int32)), .val (.int z34), .val (.int (own_nc z26 z4)), .val (.int (1 : Int32)), .val (.int z43), .val (.int z45), .val (.int (1 : Int32))] [])) (fun t k => XS.istore X46.here hx rfl (hb hby at_210) rfl (l' := #[.val (.int p0), .val (.int p1), .val (.int p2), .val (.int p3), .val (.int p4), .val (.int z1), .val (.int (own_unit p1 p2)), .val (.int z4), .val (.int z6), .val (.ref b7), .val (.int z24), .val (.int z26), .val (.int (1 : Int32)), .val (.int z34), .val (.int (own_nc z26 z4)), .val (.int (1 : Int32)), .val (.int z43), .val (.int z45), .val (.int (1 : Int32))]) rfl k) ?_
      refine own_by (V := T46.setTop (mkF m 214 #[.val (.int p0), .val (.int p1), .val (.int p2), .val (.int p3), .val (.int p4), .val (.int z1), .val (.int (own_unit p1 p2)), .val (.int z4), .val (.int z6), .val (.ref b7), .val (.int z24), .val (.int z26), .val (.int (1 : Int32)), .val (.int z34), .val (.int (own_nc z26 z4)), .val (.int (1 : Int32)), .val (.int z43), .val (.int z45), .val (.int (1 : Int32))] [(.int (1 : Int32))])) (fun t k => XS.iload X46.here hx rfl (hb hby at_212) rfl  k) ?_
      have hb214_49 : ¬ ((1 : Int32) = (0 : Int32)) := by decide
      refine own_by (V := T46.setTop (mkF m 217 #[.val (.int p0), .val (.int p1), .val (.int p2), .val (.int p3), .val (.int p4), .val (.int z1), .val (.int (own_unit p1 p2)), .val (.int z4), .val (.int z6), .val (.ref b7), .val (.int z24), .val (.int z26), .val (.int (1 : Int32)), .val (.int z34), .val (.int (own_nc z26 z4)), .val (.int (1 : Int32)), .val (.int z43), .val (.int z45), .val (.int (1 : Int32))] [])) (fun t k => XS.ifNo X46.here hx rfl (hb hby at_214) rfl ((if0 _ _).trans (feq hb214_49).1) k) ?_
      refine own_by (V := T46.setTop (mkF m 219 #[.val (.int p0), .val (.int p1), .val (.int p2), .val (.int p3), .val (.int p4), .val (.int z1), .val (.int (own_unit p1 p2)), .val (.int z4), .val (.int z6), .val (.ref b7), .val (.int z24), .val (.int z26), .val (.int (1 : Int32)), .val (.int z34), .val (.int (own_nc z26 z4)), .val (.int (1 : Int32)), .val (.int z43), .val (.int z45), .val (.int (1 : Int32))] [(.int (1 : Int32))])) (fun t k => XS.iload X46.here hx rfl (hb hby at_217) rfl  k) ?_
      have hb219_50 : ¬ ((1 : Int32) = (0 : Int32)) := by decide
      refine own_by (V := T46.setTop (mkF m 222 #[.val (.int p0), .val (.int p1), .val (.int p2), .val (.int p3), .val (.int p4), .val (.int z1), .val (.int (own_unit p1 p2)), .val (.int z4), .val (.int z6), .val (.ref b7), .val (.int z24), .val (.int z26), .val (.int (1 : Int32)), .val (.int z34), .val (.int (own_nc z26 z4)), .val (.int (1 : Int32)), .val (.int z43), .val (.int z45), .val (.int (1 : Int32))] [])) (fun t k => XS.ifNo X46.here hx rfl (hb hby at_219) rfl ((if0 _ _).trans (feq hb219_50).1) k) ?_
      refine own_by (V := T46.setTop (mkF m 224 #[.val (.int p0), .val (.int p1), .val (.int p2), .val (.int p3), .val (.int p4), .val (.int z1), .val (.int (own_unit p1 p2)), .val (.int z4), .val (.int z6), .val (.ref b7), .val (.int z24), .val (.int z26), .val (.int (1 : Int32)), .val (.int z34), .val (.int (own_nc z26 z4)), .val (.int (1 : Int32)), .val (.int z43), .val (.int z45), .val (.int (1 : Int32))] [(.int (1 : Int32))])) (fun t k => XS.iload X46.here hx rfl (hb hby at_222) rfl  k) ?_
      have hb224_51 : ¬ ((1 : Int32) = (0 : Int32)) := by decide
      refine own_by (V := T46.setTop (mkF m 227 #[.val (.int p0), .val (.int p1), .val (.int p2), .val (.int p3), .val (.int p4), .val (.int z1), .val (.int (own_unit p1 p2)), .val (.int z4), .val (.int z6), .val (.ref b7), .val (.int z24), .val (.int z26), .val (.int (1 : Int32)), .val (.int z34), .val (.int (own_nc z26 z4)), .val (.int (1 : Int32)), .val (.int z43), .val (.int z45), .val (.int (1 : Int32))] [])) (fun t k => XS.ifNo X46.here hx rfl (hb hby at_224) rfl ((if0 _ _).trans (feq hb224_51).1) k) ?_
      refine own_by (V := T46.setTop (mkF m 229 #[.val (.int p0), .val (.int p1), .val (.int p2), .val (.int p3), .val (.int p4), .val (.int z1), .val (.int (own_unit p1 p2)), .val (.int z4), .val (.int z6), .val (.ref b7), .val (.int z24), .val (.int z26), .val (.int (1 : Int32)), .val (.int z34), .val (.int (own_nc z26 z4)), .val (.int (1 : Int32)), .val (.int z43), .val (.int z45), .val (.int (1 : Int32))] [(.ref b7)])) (fun t k => XS.aload X46.here hx rfl (hb hby at_227) rfl rfl k) ?_
      obtain ⟨cq53, kq53, q53a, q53b, q53c⟩ := isOf hZ e46 Ec39
      obtain ⟨_, _, ⟨T52, Lq52, kq52, nq52⟩, -, X52, ⟨Lc52, hQ52, lq52, yq52, zq52⟩, st52⟩ := X46.virtualBack hx (y := (⟨"crossmarc/reading/Cursor", "position", "()J"⟩ : MethodName)) (z := (⟨"crossmarc/reading/Cursor", "position", "()J"⟩ : MethodName)) hown (mvT hZ (hw _ (List.mem_of_getElem? (i := 58) rfl))) (mvT hZ (hw _ (List.mem_of_getElem? (i := 59) rfl))) (notFace_of_selects (args := #[]) (mvT hZ (hw _ (List.mem_of_getElem? (i := 61) rfl)))) (mvT hZ (hw _ (List.mem_of_getElem? (i := 61) rfl))) (mvT hZ (hw _ (List.mem_of_getElem? (i := 60) rfl))) (by decide) (backOf (W := 0) (own_position l Z a0 hw [] b7 ((0 : Int64) + (z1.toInt64)) T39.heap n0 g39_7) hZ (hw _ (List.mem_of_getElem? (i := 62) rfl)) (hw _ (List.mem_of_getElem? (i := 7) rfl)) (by decide) (by decide)) q53a q53c (g := (mkF m 229 #[.val (.int p0), .val (.int p1), .val (.int p2), .val (.int p3), .val (.int p4), .val (.int z1), .val (.int (own_unit p1 p2)), .val (.int z4), .val (.int z6), .val (.ref b7), .val (.int z24), .val (.int z26), .val (.int (1 : Int32)), .val (.int z34), .val (.int (own_nc z26 z4)), .val (.int (1 : Int32)), .val (.int z43), .val (.int z45), .val (.int (1 : Int32))] [(.ref b7)])) rfl (by rw [hml]; rfl) (Steps.refl _) (argsL := []) (rest := []) (lenOf own_pd4 rfl) rfl (by show 2 * 0 + _ ≤ _; exact Nat.le_of_eq rfl) (hb hby at_229) (fun _ _ => ⟨rfl, e46, (by decide : 1 + 0 ≤ _), (by decide : 9 + 0 ≤ _)⟩)
      dsimp only [Pt.U, Pt.locs, Pt.cells, Pt.slots] at X52 lq52 yq52 zq52 st52 hQ52
      subst lq52 yq52 zq52
      obtain ⟨rfl, N52q, e52⟩ := hQ52
      have N52 := Fr.app N46 N52q
      refine own_by (V := T52.setTop (mkF m 232 #[.val (.int p0), .val (.int p1), .val (.int p2), .val (.int p3), .val (.int p4), .val (.int z1), .val (.int (own_unit p1 p2)), .val (.int z4), .val (.int z6), .val (.ref b7), .val (.int z24), .val (.int z26), .val (.int (1 : Int32)), .val (.int z34), .val (.int (own_nc z26 z4)), .val (.int (1 : Int32)), .val (.int z43), .val (.int z45), .val (.int (1 : Int32))] [(.long ((0 : Int64) + (z1.toInt64)))])) (fun t k => st52.trans k) ?_
      refine own_by (V := T52.setTop (mkF m 234 #[.val (.int p0), .val (.int p1), .val (.int p2), .val (.int p3), .val (.int p4), .val (.int z1), .val (.int (own_unit p1 p2)), .val (.int z4), .val (.int z6), .val (.ref b7), .val (.int z24), .val (.int z26), .val (.int (1 : Int32)), .val (.int z34), .val (.int (own_nc z26 z4)), .val (.int (1 : Int32)), .val (.int z43), .val (.int z45), .val (.int (1 : Int32))] [(.int z1), (.long ((0 : Int64) + (z1.toInt64)))])) (fun t k => XS.iload X52.here hx rfl (hb hby at_232) rfl  k) ?_
      refine own_by (V := T52.setTop (mkF m 235 #[.val (.int p0), .val (.int p1), .val (.int p2), .val (.int p3), .val (.int p4), .val (.int z1), .val (.int (own_unit p1 p2)), .val (.int z4), .val (.int z6), .val (.ref b7), .val (.int z24), .val (.int z26), .val (.int (1 : Int32)), .val (.int z34), .val (.int (own_nc z26 z4)), .val (.int (1 : Int32)), .val (.int z43), .val (.int z45), .val (.int (1 : Int32))] [(.long (z1.toInt64)), (.long ((0 : Int64) + (z1.toInt64)))])) (fun t k => XS.i2l X52.here hx rfl (hb hby at_234) rfl k) ?_
      refine own_by (V := T52.setTop (mkF m 236 #[.val (.int p0), .val (.int p1), .val (.int p2), .val (.int p3), .val (.int p4), .val (.int z1), .val (.int (own_unit p1 p2)), .val (.int z4), .val (.int z6), .val (.ref b7), .val (.int z24), .val (.int z26), .val (.int (1 : Int32)), .val (.int z34), .val (.int (own_nc z26 z4)), .val (.int (1 : Int32)), .val (.int z43), .val (.int z45), .val (.int (1 : Int32))] [(.int (lcmpW ((0 : Int64) + (z1.toInt64)) (z1.toInt64)))])) (fun t k => XS.lcmp X52.here hx rfl (hb hby at_235) rfl k) ?_
      have hb236_54 : ((lcmpW ((0 : Int64) + (z1.toInt64)) (z1.toInt64)) = (0 : Int32)) := (lw_eq _ _).mpr (Int64.zero_add _)
      refine own_by (V := T52.setTop (mkF m 239 #[.val (.int p0), .val (.int p1), .val (.int p2), .val (.int p3), .val (.int p4), .val (.int z1), .val (.int (own_unit p1 p2)), .val (.int z4), .val (.int z6), .val (.ref b7), .val (.int z24), .val (.int z26), .val (.int (1 : Int32)), .val (.int z34), .val (.int (own_nc z26 z4)), .val (.int (1 : Int32)), .val (.int z43), .val (.int z45), .val (.int (1 : Int32))] [])) (fun t k => XS.ifNo X52.here hx rfl (hb hby at_236) rfl ((if0 _ _).trans (teq hb236_54).2) k) ?_
      refine own_by (V := T52.setTop (mkF m 240 #[.val (.int p0), .val (.int p1), .val (.int p2), .val (.int p3), .val (.int p4), .val (.int z1), .val (.int (own_unit p1 p2)), .val (.int z4), .val (.int z6), .val (.ref b7), .val (.int z24), .val (.int z26), .val (.int (1 : Int32)), .val (.int z34), .val (.int (own_nc z26 z4)), .val (.int (1 : Int32)), .val (.int z43), .val (.int z45), .val (.int (1 : Int32))] [(.int (1 : Int32))])) (fun t k => XS.iconst X52.here hx rfl (hb hby at_239) k) ?_
      refine own_by (V := T52.setTop (mkF m 244 #[.val (.int p0), .val (.int p1), .val (.int p2), .val (.int p3), .val (.int p4), .val (.int z1), .val (.int (own_unit p1 p2)), .val (.int z4), .val (.int z6), .val (.ref b7), .val (.int z24), .val (.int z26), .val (.int (1 : Int32)), .val (.int z34), .val (.int (own_nc z26 z4)), .val (.int (1 : Int32)), .val (.int z43), .val (.int z45), .val (.int (1 : Int32))] [(.int (1 : Int32))])) (fun t k => XS.goto X52.here hx rfl (pc0 := 240) (pc' := 244) rfl (hb hby at_240) (by decide) (by decide) k) ?_
      refine own_retN X52 hx hlk e52 Bd.returns (t := .boolean) (by simp) rfl (hb hby at_244) ?_ (by decide) (by decide)
      exact ⟨rfl, N52⟩
    by_cases hb168_55 : z4 = (13 : Int32)
    · refine own_by (V := T39.setTop (mkF m 171 #[.val (.int p0), .val (.int p1), .val (.int p2), .val (.int p3), .val (.int p4), .val (.int z1), .val (.int (own_unit p1 p2)), .val (.int z4), .val (.int z6), .val (.ref b7), .val (.int z24), .val (.int z26), .val (.int (1 : Int32)), .val (.int z34), .val (.int (own_nc z26 z4)), .val (.int (1 : Int32)), .unset, .unset, .unset] [(.int z34)])) (fun t k => XS.icmpNo X39.here hx rfl (hb hby at_168) rfl (teq hb168_55).2 k) ?_
      refine own_by (V := T39.setTop (mkF m 172 #[.val (.int p0), .val (.int p1), .val (.int p2), .val (.int p3), .val (.int p4), .val (.int z1), .val (.int (own_unit p1 p2)), .val (.int z4), .val (.int z6), .val (.ref b7), .val (.int z24), .val (.int z26), .val (.int (1 : Int32)), .val (.int z34), .val (.int (own_nc z26 z4)), .val (.int (1 : Int32)), .unset, .unset, .unset] [(.int (1 : Int32)), (.int z34)])) (fun t k => XS.iconst X39.here hx rfl (hb hby at_171) k) ?_
      refine own_by (V := T39.setTop (mkF m 176 #[.val (.int p0), .val (.int p1), .val (.int p2), .val (.int p3), .val (.int p4), .val (.int z1), .val (.int (own_unit p1 p2)), .val (.int z4), .val (.int z6), .val (.ref b7), .val (.int z24), .val (.int z26), .val (.int (1 : Int32)), .val (.int z34), .val (.int (own_nc z26 z4)), .val (.int (1 : Int32)), .unset, .unset, .unset] [(.int (1 : Int32)), (.int z34)])) (fun t k => XS.goto X39.here hx rfl (pc0 := 172) (pc' := 176) rfl (hb hby at_172) (by decide) (by decide) k) ?_
      exact J41 T39 _ (1 : Int32) (X39.more (by decide) (by decide)) rfl N39 (if_pos hb168_55).symm
    · refine own_by (V := T39.setTop (mkF m 175 #[.val (.int p0), .val (.int p1), .val (.int p2), .val (.int p3), .val (.int p4), .val (.int z1), .val (.int (own_unit p1 p2)), .val (.int z4), .val (.int z6), .val (.ref b7), .val (.int z24), .val (.int z26), .val (.int (1 : Int32)), .val (.int z34), .val (.int (own_nc z26 z4)), .val (.int (1 : Int32)), .unset, .unset, .unset] [(.int z34)])) (fun t k => XS.icmpYes X39.here hx rfl (pc0 := 168) (pc' := 175) rfl (hb hby at_168) rfl (feq hb168_55).2 (by decide) (by decide) k) ?_
      refine own_by (V := T39.setTop (mkF m 176 #[.val (.int p0), .val (.int p1), .val (.int p2), .val (.int p3), .val (.int p4), .val (.int z1), .val (.int (own_unit p1 p2)), .val (.int z4), .val (.int z6), .val (.ref b7), .val (.int z24), .val (.int z26), .val (.int (1 : Int32)), .val (.int z34), .val (.int (own_nc z26 z4)), .val (.int (1 : Int32)), .unset, .unset, .unset] [(.int (0 : Int32)), (.int z34)])) (fun t k => XS.iconst X39.here hx rfl (hb hby at_175) k) ?_
      exact J41 T39 _ (0 : Int32) (X39.more (by decide) (by decide)) rfl N39 (if_neg hb168_55).symm
  by_cases hb111_56 : (own_unit p1 p2) = (13 : Int32)
  · refine own_by (V := T30.setTop (mkF m 114 #[.val (.int p0), .val (.int p1), .val (.int p2), .val (.int p3), .val (.int p4), .val (.int z1), .val (.int (own_unit p1 p2)), .val (.int z4), .val (.int z6), .val (.ref b7), .val (.int z24), .val (.int z26), .val (.int (1 : Int32)), .unset, .unset, .unset, .unset, .unset, .unset] [(.int z24)])) (fun t k => XS.icmpNo X30.here hx rfl (hb hby at_111) rfl (teq hb111_56).2 k) ?_
    refine own_by (V := T30.setTop (mkF m 115 #[.val (.int p0), .val (.int p1), .val (.int p2), .val (.int p3), .val (.int p4), .val (.int z1), .val (.int (own_unit p1 p2)), .val (.int z4), .val (.int z6), .val (.ref b7), .val (.int z24), .val (.int z26), .val (.int (1 : Int32)), .unset, .unset, .unset, .unset, .unset, .unset] [(.int (1 : Int32)), (.int z24)])) (fun t k => XS.iconst X30.here hx rfl (hb hby at_114) k) ?_
    refine own_by (V := T30.setTop (mkF m 119 #[.val (.int p0), .val (.int p1), .val (.int p2), .val (.int p3), .val (.int p4), .val (.int z1), .val (.int (own_unit p1 p2)), .val (.int z4), .val (.int z6), .val (.ref b7), .val (.int z24), .val (.int z26), .val (.int (1 : Int32)), .unset, .unset, .unset, .unset, .unset, .unset] [(.int (1 : Int32)), (.int z24)])) (fun t k => XS.goto X30.here hx rfl (pc0 := 115) (pc' := 119) rfl (hb hby at_115) (by decide) (by decide) k) ?_
    exact J32 T30 _ (1 : Int32) (X30.more (by decide) (by decide)) rfl N30 (if_pos hb111_56).symm
  · refine own_by (V := T30.setTop (mkF m 118 #[.val (.int p0), .val (.int p1), .val (.int p2), .val (.int p3), .val (.int p4), .val (.int z1), .val (.int (own_unit p1 p2)), .val (.int z4), .val (.int z6), .val (.ref b7), .val (.int z24), .val (.int z26), .val (.int (1 : Int32)), .unset, .unset, .unset, .unset, .unset, .unset] [(.int z24)])) (fun t k => XS.icmpYes X30.here hx rfl (pc0 := 111) (pc' := 118) rfl (hb hby at_111) rfl (feq hb111_56).2 (by decide) (by decide) k) ?_
    refine own_by (V := T30.setTop (mkF m 119 #[.val (.int p0), .val (.int p1), .val (.int p2), .val (.int p3), .val (.int p4), .val (.int z1), .val (.int (own_unit p1 p2)), .val (.int z4), .val (.int z6), .val (.ref b7), .val (.int z24), .val (.int z26), .val (.int (1 : Int32)), .unset, .unset, .unset, .unset, .unset, .unset] [(.int (0 : Int32)), (.int z24)])) (fun t k => XS.iconst X30.here hx rfl (hb hby at_118) k) ?_
    exact J32 T30 _ (0 : Int32) (X30.more (by decide) (by decide)) rfl N30 (if_neg hb111_56).symm
set_option maxRecDepth 65536 in
set_option maxHeartbeats 40000000 in
theorem own_comes {Post : Tables → Env → Array Value → State → Outcome → State → Prop} (hpost : ∀ tb e args s v u, (limb_1_1.after args s (.returned v) u = true ∧ limb_1_2.after args s (.returned v) u = true ∧ True) → FrameEnd s (.returned v) u (Jvm.fieldLocs frame_1_writes args s ++ Jvm.arrayLocs frame_1_arrays args s ++ Jvm.staticLocs frame_1_statics s) 16 128 → Post tb e args s (.returned v) u) :
    ArmFor flags0 classFile x code maxLocals ret World_1 tables_1 room_1 Calls_1 rest_1 Pre_1 Post := by
  intro l hfl _ _ p e ha hc hk s m args below hf hA hF happ hP
  obtain ⟨hcalls, hrest, hpre⟩ := hP
  obtain ⟨-, -, -, hnamed, -, -, -, hat⟩ := (Spec.applies_iff hf).mp happ
  obtain ⟨hg, hn⟩ := and_e (Cond.before_iff.mp (show (Jvm.Cond.and given_1 narrow_1).before args s = true from hpre))
  obtain ⟨hc0, hr0⟩ := and_e hg
  obtain ⟨hv0, hr1⟩ := and_e hr0
  obtain ⟨hv1, hr2⟩ := and_e hr1
  obtain ⟨hv2, hr3⟩ := and_e hr2
  obtain ⟨hv3, hr4⟩ := and_e hr3
  have hv4 := hr4
  obtain ⟨w0, w1, w2, w3, w4, rfl⟩ : ∃ w0 w1 w2 w3 w4 : Value, args = #[w0, w1, w2, w3, w4] := by
    have hs : args.size = 5 := by simpa [Cond.value, given_1] using hc0
    obtain ⟨L⟩ := args
    match L, hs with
    | [w0, w1, w2, w3, w4], _ => exact ⟨w0, w1, w2, w3, w4, rfl⟩
  have hw := fun d (hd : d ∈ tables_1) => atoms_spec (ws := Jvm.Cond.code x code maxLocals ret :: tables_1) hat d (List.mem_cons_of_mem _ hd)
  have hfit : Fit s := fun {y c} hc i hi => by
    obtain ⟨ha, rfl⟩ := Array.getElem?_eq_some_iff.mp hc
    have q := List.all_eq_true.mp ((Array.all_eq_true_iff_forall_mem.mp hF) _ (Array.getElem_mem ha)) i (List.mem_range.mpr hi)
    simpa [Array.getElem?_eq_getElem hi] using q
  obtain ⟨i0, ei0⟩ := is_v hv0
  obtain rfl : w0 = (.int i0) := Option.some.inj ei0
  obtain ⟨i1, ei1⟩ := is_v hv1
  obtain rfl : w1 = (.int i1) := Option.some.inj ei1
  obtain ⟨i2, ei2⟩ := is_v hv2
  obtain rfl : w2 = (.int i2) := Option.some.inj ei2
  obtain ⟨i3, ei3⟩ := is_v hv3
  obtain rfl : w3 = (.int i3) := Option.some.inj ei3
  obtain ⟨i4, ei4⟩ := is_v hv4
  obtain rfl : w4 = (.int i4) := Option.some.inj ei4
  obtain ⟨w0, ev0⟩ := exa_v hn
  have S0 := Sta.start ev0 (Or.inr ⟨(hw _ (List.mem_of_getElem? (i := 9) rfl)), (hw _ (List.mem_of_getElem? (i := 10) rfl))⟩)
  obtain ⟨n, o, h1, h2, h3, _, L, rfl, ⟨rfl, N⟩, hq⟩ := own_rm0 l s _ hw tables_1 i0 i1 i2 i3 i4  s.heap s.heap.size (Nat.le_refl _) (Old.start s) w0 S0 p e ha hc hk s m _ below hf ((Spec.applies_iff_loose hf).mp happ).1 ⟨rfl, State.Warmed39.refl s, rfl⟩ trivial
  refine ⟨n, _, h1, h2, h3, hpost _ _ _ _ _ _ ⟨Cond.after_iff.mpr rfl, Cond.after_iff.mpr (eq_i res_at (Term.int_eval (1)) rfl), trivial⟩ ⟨hq.1, hq.2.1, (hq.2.2.sift fun y hy => Or.inr (N y hy)).mono (by decide) (by decide)⟩⟩
theorem main_1_1 : Claimed_1_1 := own_comes fun _ _ _ _ _ _ h hF => ⟨h.1, hF⟩
theorem main_1_2 : Claimed_1_2 := own_comes fun _ _ _ _ _ _ h hF => ⟨h.2.1, hF⟩

end Jvm.Pilot.@@N@@
namespace Jvm.Pilot.@@N@@
open Jvm Jvm.ClassFile Sem Op Lib Jvm.Free Jvm.Stand Jvm.Pilot.@@N@@.Jvm.D
/-! MADE BY PROGRAM (witnessworld.py) out of the Statement's table words and the real class files: 16 classes; the members and pool entries that the words name. The judged class is class 1, her method 4. -/
namespace start1
open Jvm.ClassFile
def u (s : String) : CpInfo := .utf8 (stringToUtf16 s)
/-- a pool by its gaps: so many unusable entries, then the entry; so many at the end -/
def gap : Nat → List CpInfo → List CpInfo
  | 0, r => r
  | n + 1, r => .unusable :: gap n r
def poolList (es : List (Nat × CpInfo)) (last : Nat) : List CpInfo := es.foldr (fun e r => gap e.1 (e.2 :: r)) (gap last [])
def pool (es : List (Nat × CpInfo)) (last : Nat) : Array CpInfo := ⟨poolList es last⟩
def fileOf (pool : Array CpInfo) (this : Nat) (attrs : Array Attribute := #[]) (ms : Array MethodInfo := #[]) (fl : Nat := 33) (sup : Nat := 0) (ifs : Array Nat := #[]) (fds : Array FieldInfo := #[]) : ClassFile where
  minorVersion := 0
  majorVersion := 65
  constantPool := pool
  accessFlags := fl
  thisClass := this
  superClass := sup
  interfaces := ifs
  fields := fds
  methods := ms
  attributes := attrs
def plain (name : String) (sup : Option ClassId) : Class where
  name := name
  kind := .ordinary
  loader := none
  accessFlags := 33
  super := sup
  interfaces := #[]
  cf := none
  fields := #[]
  methods := #[]
  instanceTypes := #[]
  staticTypes := #[]
  resolved := #[]
  callSites := []
  init := .initialized
  statics := none
  mirror := none

def pool0 : Array CpInfo := pool [(5, u "<init>"), (0, u "()V"), (1, .class_ 10), (1, u "java/lang/Object")] 113

def k0c0 : Code := { maxStack := 0, maxLocals := 1, code := object_method_1_code, exceptionTable := #[], attributes := #[] }
def k0m0 : Method := { name := "<init>", desc := "()V", sig := { parameters := [], returnType := none }, accessFlags := 1, code := some k0c0 }
/-- java/lang/Object -/
def k0 : Class := { plain "java/lang/Object" none with
  accessFlags := 33
  interfaces := #[]
  cf := some (fileOf pool0 8 #[] #[{ accessFlags := 1, nameIndex := 5, descriptorIndex := 6, attributes := #[] }] 33 0 #[] #[])
  fields := #[]
  methods := #[k0m0]
  instanceTypes := #[]
  staticTypes := #[]
  resolved := Array.replicate 124 none
  statics := none }

def pool1 : Array CpInfo := pool [(2, .class_ 4), (1, u "java/lang/Object"), (0, u "<init>"), (0, u "()V"), (0, .integer 65535), (0, .methodref 9 10), (0, .class_ 11), (0, .nameAndType 12 13), (0, u "crossmarc/reading/CursorPassPinLaw"), (0, u "unit"), (0, u "(II)I"), (0, .class_ 15), (0, u "crossmarc/reading/Cursor"), (0, .fieldref 17 18), (0, .class_ 19), (0, .nameAndType 20 21), (0, u "crossmarc/reading/CheckedEncoding"), (0, u "UTF_8"), (0, u "Lcrossmarc/reading/CheckedEncoding;"), (0, .methodref 14 23), (0, .nameAndType 5 24), (0, u "(Lcrossmarc/reading/CheckedEncoding;)V"), (0, .methodref 14 26), (0, .nameAndType 27 28), (0, u "passAsciiText"), (0, u "(I)V"), (0, .methodref 14 30), (0, .nameAndType 31 28), (0, u "pass"), (0, .methodref 9 33), (0, .nameAndType 34 35), (0, u "newLines"), (0, u "(ZI)I"), (0, .methodref 9 37), (0, .nameAndType 38 13), (0, u "nextColumn"), (0, .methodref 14 40), (0, .nameAndType 41 13), (0, u "compareTo"), (0, .methodref 14 43), (0, .nameAndType 44 45), (0, u "position"), (0, u "()J"), (3, u "law"), (0, u "(IIIII)Z")] 2

def k1m0 : Method := { name := "<init>", desc := "()V", sig := { parameters := [], returnType := none }, accessFlags := 1, code := none }
def k1c1 : Code := { maxStack := 2, maxLocals := 3, code := method_2_code, exceptionTable := #[], attributes := #[] }
def k1m1 : Method := { name := "unit", desc := "(II)I", sig := { parameters := [.int, .int], returnType := some .int }, accessFlags := 10, code := some k1c1 }
def k1c2 : Code := { maxStack := 2, maxLocals := 2, code := method_3_code, exceptionTable := #[], attributes := #[] }
def k1m2 : Method := { name := "newLines", desc := "(ZI)I", sig := { parameters := [.boolean, .int], returnType := some .int }, accessFlags := 10, code := some k1c2 }
def k1c3 : Code := { maxStack := 2, maxLocals := 2, code := method_4_code, exceptionTable := #[], attributes := #[] }
def k1m3 : Method := { name := "nextColumn", desc := "(II)I", sig := { parameters := [.int, .int], returnType := some .int }, accessFlags := 10, code := some k1c3 }
def k1c4 : Code := { maxStack := 4, maxLocals := 19, code := code, exceptionTable := #[], attributes := #[] }
def k1m4 : Method := { name := "law", desc := "(IIIII)Z", sig := { parameters := [.int, .int, .int, .int, .int], returnType := some .boolean }, accessFlags := 9, code := some k1c4 }
/-- crossmarc/reading/CursorPassPinLaw -/
def k1 : Class := { plain "crossmarc/reading/CursorPassPinLaw" (some 0) with
  accessFlags := 49
  interfaces := #[]
  cf := some (fileOf pool1 9 #[] #[{ accessFlags := 1, nameIndex := 5, descriptorIndex := 6, attributes := #[] }, { accessFlags := 10, nameIndex := 12, descriptorIndex := 13, attributes := #[] }, { accessFlags := 10, nameIndex := 34, descriptorIndex := 35, attributes := #[] }, { accessFlags := 10, nameIndex := 38, descriptorIndex := 13, attributes := #[] }, { accessFlags := 9, nameIndex := 49, descriptorIndex := 50, attributes := #[] }] 49 2 #[] #[])
  fields := #[]
  methods := #[k1m0, k1m1, k1m2, k1m3, k1m4]
  instanceTypes := #[]
  staticTypes := #[]
  resolved := Array.replicate 53 none
  statics := none }

def pool2 : Array CpInfo := pool [(1, .methodref 2 3), (0, .class_ 4), (0, .nameAndType 5 6), (0, u "java/lang/Object"), (0, u "<init>"), (0, u "()V"), (0, .fieldref 8 9), (0, .class_ 10), (0, .nameAndType 11 12), (0, u "crossmarc/reading/Cursor"), (0, u "half"), (0, u "I"), (0, .fieldref 8 14), (0, .nameAndType 15 12), (0, u "low"), (0, .fieldref 8 17), (0, .nameAndType 18 12), (0, u "high"), (0, .fieldref 8 20), (0, .nameAndType 21 22), (0, u "encoding"), (0, u "Lcrossmarc/reading/CheckedEncoding;"), (0, .fieldref 8 24), (0, .nameAndType 25 12), (0, u "line"), (0, .fieldref 8 27), (0, .nameAndType 28 12), (0, u "column"), (2, u "(Lcrossmarc/reading/CheckedEncoding;)V"), (0, .fieldref 8 33), (0, .nameAndType 34 35), (0, u "position"), (0, u "J"), (0, .fieldref 8 37), (0, .nameAndType 38 39), (0, u "afterCr"), (0, u "Z"), (6, u "needed"), (0, .methodref 48 49), (0, .class_ 50), (0, .nameAndType 51 52), (0, u "java/lang/Integer"), (0, u "compare"), (0, u "(II)I"), (1, .class_ 56), (1, u "crossmarc/reading/Cursor$1"), (13, u "pass"), (0, u "(I)V"), (14, u "()J"), (0, u "compareTo"), (2, u "passAsciiText")] 6

def k2c0 : Code := { maxStack := 2, maxLocals := 2, code := prog_53_method_1_code, exceptionTable := #[], attributes := #[] }
def k2m0 : Method := { name := "<init>", desc := "(Lcrossmarc/reading/CheckedEncoding;)V", sig := { parameters := [(.object "crossmarc/reading/CheckedEncoding")], returnType := none }, accessFlags := 0, code := some k2c0 }
def k2c1 : Code := { maxStack := 2, maxLocals := 1, code := prog_53_method_5_code, exceptionTable := #[], attributes := #[] }
def k2m1 : Method := { name := "position", desc := "()J", sig := { parameters := [], returnType := some .long }, accessFlags := 0, code := some k2c1 }
def k2c2 : Code := { maxStack := 2, maxLocals := 4, code := prog_53_method_7_code, exceptionTable := #[], attributes := #[] }
def k2m2 : Method := { name := "compareTo", desc := "(II)I", sig := { parameters := [.int, .int], returnType := some .int }, accessFlags := 0, code := some k2c2 }
def k2c3 : Code := { maxStack := 5, maxLocals := 2, code := prog_53_method_9_code, exceptionTable := #[], attributes := #[] }
def k2m3 : Method := { name := "passAsciiText", desc := "(I)V", sig := { parameters := [.int], returnType := none }, accessFlags := 0, code := some k2c3 }
def k2c4 : Code := { maxStack := 3, maxLocals := 2, code := prog_53_method_10_code, exceptionTable := #[], attributes := #[] }
def k2m4 : Method := { name := "pass", desc := "(I)V", sig := { parameters := [.int], returnType := none }, accessFlags := 0, code := some k2c4 }
/-- crossmarc/reading/Cursor -/
def k2 : Class := { plain "crossmarc/reading/Cursor" (some 0) with
  accessFlags := 48
  interfaces := #[]
  cf := some (fileOf pool2 8 #[.nestMembers #[54]] #[{ accessFlags := 0, nameIndex := 5, descriptorIndex := 31, attributes := #[] }, { accessFlags := 0, nameIndex := 34, descriptorIndex := 86, attributes := #[] }, { accessFlags := 0, nameIndex := 87, descriptorIndex := 52, attributes := #[] }, { accessFlags := 0, nameIndex := 90, descriptorIndex := 71, attributes := #[] }, { accessFlags := 0, nameIndex := 70, descriptorIndex := 71, attributes := #[] }] 48 2 #[] #[{ accessFlags := 18, nameIndex := 21, descriptorIndex := 22, attributes := #[] }, { accessFlags := 2, nameIndex := 34, descriptorIndex := 35, attributes := #[] }, { accessFlags := 2, nameIndex := 25, descriptorIndex := 12, attributes := #[] }, { accessFlags := 2, nameIndex := 28, descriptorIndex := 12, attributes := #[] }, { accessFlags := 2, nameIndex := 38, descriptorIndex := 39, attributes := #[] }, { accessFlags := 2, nameIndex := 11, descriptorIndex := 12, attributes := #[] }, { accessFlags := 2, nameIndex := 46, descriptorIndex := 12, attributes := #[] }, { accessFlags := 2, nameIndex := 15, descriptorIndex := 12, attributes := #[] }, { accessFlags := 2, nameIndex := 18, descriptorIndex := 12, attributes := #[] }])
  fields := #[{ name := "encoding", type := (.object "crossmarc/reading/CheckedEncoding"), accessFlags := 18, slot := 0, constantValue := 0 }, { name := "position", type := .long, accessFlags := 2, slot := 1, constantValue := 0 }, { name := "line", type := .int, accessFlags := 2, slot := 2, constantValue := 0 }, { name := "column", type := .int, accessFlags := 2, slot := 3, constantValue := 0 }, { name := "afterCr", type := .boolean, accessFlags := 2, slot := 4, constantValue := 0 }, { name := "half", type := .int, accessFlags := 2, slot := 5, constantValue := 0 }, { name := "needed", type := .int, accessFlags := 2, slot := 6, constantValue := 0 }, { name := "low", type := .int, accessFlags := 2, slot := 7, constantValue := 0 }, { name := "high", type := .int, accessFlags := 2, slot := 8, constantValue := 0 }]
  methods := #[k2m0, k2m1, k2m2, k2m3, k2m4]
  instanceTypes := #[(.object "crossmarc/reading/CheckedEncoding"), .long, .int, .int, .boolean, .int, .int, .int, .int]
  staticTypes := #[]
  resolved := Array.replicate 97 none
  statics := none }

def pool3 : Array CpInfo := pool [(1, .class_ 2), (0, u "java/lang/constant/Constable"), (0, .class_ 4), (0, u "java/lang/Object")] 6

/-- java/lang/constant/Constable -/
def k3 : Class := { plain "java/lang/constant/Constable" (some 0) with
  accessFlags := 1537
  interfaces := #[]
  cf := some (fileOf pool3 1 #[] #[] 1537 3 #[] #[])
  fields := #[]
  methods := #[]
  instanceTypes := #[]
  staticTypes := #[]
  resolved := Array.replicate 11 none
  statics := none }

def pool4 : Array CpInfo := pool [(1, .class_ 2), (0, u "java/lang/Comparable"), (0, .class_ 4), (0, u "java/lang/Object")] 7

/-- java/lang/Comparable -/
def k4 : Class := { plain "java/lang/Comparable" (some 0) with
  accessFlags := 1537
  interfaces := #[]
  cf := some (fileOf pool4 1 #[] #[] 1537 3 #[] #[])
  fields := #[]
  methods := #[]
  instanceTypes := #[]
  staticTypes := #[]
  resolved := Array.replicate 12 none
  statics := none }

def pool5 : Array CpInfo := pool [(1, .class_ 2), (0, u "java/io/Serializable"), (0, .class_ 4), (0, u "java/lang/Object")] 2

/-- java/io/Serializable -/
def k5 : Class := { plain "java/io/Serializable" (some 0) with
  accessFlags := 1537
  interfaces := #[]
  cf := some (fileOf pool5 1 #[] #[] 1537 3 #[] #[])
  fields := #[]
  methods := #[]
  instanceTypes := #[]
  staticTypes := #[]
  resolved := Array.replicate 7 none
  statics := none }

def pool6 : Array CpInfo := pool [(2, .class_ 4), (1, u "java/lang/Enum"), (0, u "name"), (0, u "Ljava/lang/String;"), (2, u "ordinal"), (0, u "I"), (1, .class_ 14), (1, u "java/lang/Object"), (4, u "hash"), (86, .class_ 108), (1, u "java/lang/Enum$EnumDesc"), (2, .class_ 112), (0, u "java/lang/constant/Constable"), (0, .class_ 114), (0, u "java/lang/Comparable"), (0, .class_ 116), (0, u "java/io/Serializable")] 87

/-- java/lang/Enum -/
def k6 : Class := { plain "java/lang/Enum" (some 0) with
  accessFlags := 1057
  interfaces := #[3, 4, 5]
  cf := some (fileOf pool6 2 #[.nestMembers #[106]] #[] 1057 12 #[111, 113, 115] #[{ accessFlags := 18, nameIndex := 5, descriptorIndex := 6, attributes := #[] }, { accessFlags := 18, nameIndex := 9, descriptorIndex := 10, attributes := #[] }, { accessFlags := 2, nameIndex := 19, descriptorIndex := 10, attributes := #[] }])
  fields := #[{ name := "name", type := (.object "java/lang/String"), accessFlags := 18, slot := 0, constantValue := 0 }, { name := "ordinal", type := .int, accessFlags := 18, slot := 1, constantValue := 0 }, { name := "hash", type := .int, accessFlags := 2, slot := 2, constantValue := 0 }]
  methods := #[]
  instanceTypes := #[(.object "java/lang/String"), .int, .int]
  staticTypes := #[]
  resolved := Array.replicate 204 none
  statics := none }

def pool7 : Array CpInfo := pool [(1, .class_ 2), (0, u "crossmarc/reading/CheckedEncoding"), (2, u "UTF_8"), (0, u "Lcrossmarc/reading/CheckedEncoding;"), (2, u "US_ASCII"), (2, u "UTF_16BE"), (2, u "UTF_16LE"), (2, u "SINGLE_BYTE"), (2, u "$VALUES"), (0, u "[Lcrossmarc/reading/CheckedEncoding;"), (6, .class_ 31), (1, u "java/lang/Enum"), (8, u "charset"), (0, u "Ljava/nio/charset/Charset;")] 97

/-- crossmarc/reading/CheckedEncoding -/
def k7 : Class := { plain "crossmarc/reading/CheckedEncoding" (some 6) with
  accessFlags := 16432
  interfaces := #[]
  cf := some (fileOf pool7 1 #[] #[] 16432 29 #[] #[{ accessFlags := 16409, nameIndex := 5, descriptorIndex := 6, attributes := #[] }, { accessFlags := 16409, nameIndex := 9, descriptorIndex := 6, attributes := #[] }, { accessFlags := 16409, nameIndex := 12, descriptorIndex := 6, attributes := #[] }, { accessFlags := 16409, nameIndex := 15, descriptorIndex := 6, attributes := #[] }, { accessFlags := 16409, nameIndex := 18, descriptorIndex := 6, attributes := #[] }, { accessFlags := 16, nameIndex := 40, descriptorIndex := 41, attributes := #[] }, { accessFlags := 4122, nameIndex := 21, descriptorIndex := 22, attributes := #[] }])
  fields := #[{ name := "UTF_8", type := (.object "crossmarc/reading/CheckedEncoding"), accessFlags := 16409, slot := 0, constantValue := 0 }, { name := "US_ASCII", type := (.object "crossmarc/reading/CheckedEncoding"), accessFlags := 16409, slot := 1, constantValue := 0 }, { name := "UTF_16BE", type := (.object "crossmarc/reading/CheckedEncoding"), accessFlags := 16409, slot := 2, constantValue := 0 }, { name := "UTF_16LE", type := (.object "crossmarc/reading/CheckedEncoding"), accessFlags := 16409, slot := 3, constantValue := 0 }, { name := "SINGLE_BYTE", type := (.object "crossmarc/reading/CheckedEncoding"), accessFlags := 16409, slot := 4, constantValue := 0 }, { name := "charset", type := (.object "java/nio/charset/Charset"), accessFlags := 16, slot := 3, constantValue := 0 }, { name := "$VALUES", type := (.array (.object "crossmarc/reading/CheckedEncoding")), accessFlags := 4122, slot := 5, constantValue := 0 }]
  methods := #[]
  instanceTypes := #[(.object "java/lang/String"), .int, .int, (.object "java/nio/charset/Charset")]
  staticTypes := #[(.object "crossmarc/reading/CheckedEncoding"), (.object "crossmarc/reading/CheckedEncoding"), (.object "crossmarc/reading/CheckedEncoding"), (.object "crossmarc/reading/CheckedEncoding"), (.object "crossmarc/reading/CheckedEncoding"), (.array (.object "crossmarc/reading/CheckedEncoding"))]
  resolved := Array.replicate 139 none
  statics := some 0 }

def pool8 : Array CpInfo := pool [(2, .class_ 4), (1, u "java/lang/Object"), (0, u "<init>"), (0, u "()V"), (1, .class_ 10), (1, u "java/lang/Number"), (2, .class_ 14), (0, u "java/io/Serializable"), (0, u "serialVersionUID"), (0, u "J")] 20

def k8m0 : Method := { name := "<init>", desc := "()V", sig := { parameters := [], returnType := none }, accessFlags := 1, code := none }
/-- java/lang/Number -/
def k8 : Class := { plain "java/lang/Number" (some 0) with
  accessFlags := 1057
  interfaces := #[5]
  cf := some (fileOf pool8 8 #[] #[{ accessFlags := 1, nameIndex := 5, descriptorIndex := 6, attributes := #[] }] 1057 2 #[13] #[{ accessFlags := 26, nameIndex := 15, descriptorIndex := 16, attributes := #[] }])
  fields := #[{ name := "serialVersionUID", type := .long, accessFlags := 26, slot := 0, constantValue := 0 }]
  methods := #[k8m0]
  instanceTypes := #[]
  staticTypes := #[.long]
  resolved := Array.replicate 37 none
  statics := none }

def pool9 : Array CpInfo := pool [(1, .class_ 2), (0, u "java/lang/constant/ConstantDesc"), (0, .class_ 4), (0, u "java/lang/Object")] 32

/-- java/lang/constant/ConstantDesc -/
def k9 : Class := { plain "java/lang/constant/ConstantDesc" (some 0) with
  accessFlags := 1537
  interfaces := #[]
  cf := some (fileOf pool9 1 #[] #[] 1537 3 #[] #[])
  fields := #[]
  methods := #[]
  instanceTypes := #[]
  staticTypes := #[]
  resolved := Array.replicate 37 none
  statics := none }

def pool10 : Array CpInfo := pool [(1, .class_ 2), (0, u "java/lang/Integer"), (16, u "digits"), (0, u "[C"), (39, u "(II)I"), (24, u "DigitOnes"), (0, u "[B"), (2, u "DigitTens"), (99, .class_ 190), (0, u "java/lang/Integer$IntegerCache"), (3, u "I"), (8, .class_ 204), (0, u "java/lang/Number"), (2, u "value"), (53, u "compare"), (40, u "TYPE"), (0, u "Ljava/lang/Class;"), (0, .class_ 305), (0, u "java/lang/Comparable"), (0, .class_ 307), (0, u "java/lang/constant/Constable"), (0, .class_ 309), (0, u "java/lang/constant/ConstantDesc"), (0, u "MIN_VALUE"), (1, u "MAX_VALUE"), (3, u "SIZE"), (1, u "BYTES"), (1, u "serialVersionUID"), (0, u "J")] 131

def k10c0 : Code := { maxStack := 2, maxLocals := 2, code := jdk_33_method_40_code, exceptionTable := #[], attributes := #[] }
def k10m0 : Method := { name := "compare", desc := "(II)I", sig := { parameters := [.int, .int], returnType := some .int }, accessFlags := 9, code := some k10c0 }
/-- java/lang/Integer -/
def k10 : Class := { plain "java/lang/Integer" (some 8) with
  accessFlags := 49
  interfaces := #[4, 3, 9]
  cf := some (fileOf pool10 1 #[.nestMembers #[189]] #[{ accessFlags := 9, nameIndex := 261, descriptorIndex := 60, attributes := #[] }] 49 203 #[304, 306, 308] #[{ accessFlags := 25, nameIndex := 310, descriptorIndex := 194, attributes := #[] }, { accessFlags := 25, nameIndex := 312, descriptorIndex := 194, attributes := #[] }, { accessFlags := 25, nameIndex := 302, descriptorIndex := 303, attributes := #[] }, { accessFlags := 24, nameIndex := 19, descriptorIndex := 20, attributes := #[] }, { accessFlags := 24, nameIndex := 89, descriptorIndex := 86, attributes := #[] }, { accessFlags := 24, nameIndex := 85, descriptorIndex := 86, attributes := #[] }, { accessFlags := 18, nameIndex := 207, descriptorIndex := 194, attributes := #[] }, { accessFlags := 25, nameIndex := 316, descriptorIndex := 194, attributes := #[] }, { accessFlags := 25, nameIndex := 318, descriptorIndex := 194, attributes := #[] }, { accessFlags := 26, nameIndex := 320, descriptorIndex := 321, attributes := #[] }])
  fields := #[{ name := "MIN_VALUE", type := .int, accessFlags := 25, slot := 0, constantValue := 0 }, { name := "MAX_VALUE", type := .int, accessFlags := 25, slot := 1, constantValue := 0 }, { name := "TYPE", type := (.object "java/lang/Class"), accessFlags := 25, slot := 2, constantValue := 0 }, { name := "digits", type := (.array .char), accessFlags := 24, slot := 3, constantValue := 0 }, { name := "DigitTens", type := (.array .byte), accessFlags := 24, slot := 4, constantValue := 0 }, { name := "DigitOnes", type := (.array .byte), accessFlags := 24, slot := 5, constantValue := 0 }, { name := "value", type := .int, accessFlags := 18, slot := 0, constantValue := 0 }, { name := "SIZE", type := .int, accessFlags := 25, slot := 6, constantValue := 0 }, { name := "BYTES", type := .int, accessFlags := 25, slot := 7, constantValue := 0 }, { name := "serialVersionUID", type := .long, accessFlags := 26, slot := 8, constantValue := 0 }]
  methods := #[k10m0]
  instanceTypes := #[.int]
  staticTypes := #[.int, .int, (.object "java/lang/Class"), (.array .char), (.array .byte), (.array .byte), .int, .int, .long]
  resolved := Array.replicate 453 none
  statics := none }

def pool11 : Array CpInfo := pool [(1, u "java/lang/Cloneable"), (0, .class_ 1), (0, u "java/lang/Object"), (0, .class_ 3)] 3

/-- java/lang/Cloneable -/
def k11 : Class := { plain "java/lang/Cloneable" (some 0) with
  accessFlags := 1537
  interfaces := #[]
  cf := some (fileOf pool11 2 #[] #[] 1537 4 #[] #[])
  fields := #[]
  methods := #[]
  instanceTypes := #[]
  staticTypes := #[]
  resolved := Array.replicate 8 none
  statics := none }

/-- the primitive byte -/
def k12 : Class := { plain "byte" none with kind := .primitive 'B', accessFlags := 0x411 }
/-- [B -/
def k13 : Class := { plain "[B" (some 0) with kind := .array 12 .byte, interfaces := #[11, 5], accessFlags := 1041 }

/-- the primitive int -/
def k14 : Class := { plain "int" none with kind := .primitive 'I', accessFlags := 0x411 }
/-- [I -/
def k15 : Class := { plain "[I" (some 0) with kind := .array 14 .int, interfaces := #[11, 5], accessFlags := 1041 }

def heap : Heap := #[{ cls := 7, slots := #[.ref 1, .null, .null, .null, .null, .null], vm := .statics 7 },
  { cls := 7, slots := #[.null, .int 0, .int 0, .null], vm := .none }]
def classes : Array Class := #[k0, k1, k2, k3, k4, k5, k6, k7, k8, k9, k10, k11, k12, k13, k14, k15]
def interned : List (Array UInt16 × Addr) := []
def slotsUsed : Nat := 10
def theMethod : MethodId := ⟨1, 4⟩
def args0 : Array Value := #[.int 5, .int 7, .int 65, .int 66, .int 67]
def aboutOver (below : List Frame) : State where
  vm := { classes := classes, interned := interned.toArray }
  heap := heap
  slotsUsed := slotsUsed
  threads := #[{ frames := .invoking theMethod args0 :: below }]
def below0 : List Frame := [.native { method := ⟨0, 0⟩, args := #[] }]
def about1 : State := aboutOver below0
def p0 : Program := .bare "" "" ""
def e0 : Env := launch0.env 0 0 0
theorem w_frames : about1.frames = Frame.invoking theMethod args0 :: below0 := rfl
set_option maxRecDepth 65536 in
theorem w_args : argsFit about1.vm theMethod args0 = true := by decide +kernel
set_option maxRecDepth 65536 in
theorem w_heap : heapFits about1 = true := by decide +kernel
set_option maxRecDepth 65536 in
theorem w_runnable : about1.curStatus? = some .runnable := by decide +kernel
set_option maxRecDepth 65536 in
theorem w_alone : about1.alone = true := by decide +kernel
set_option maxRecDepth 65536 in
theorem w_named : about1.methodNamed? x = some theMethod := by decide +kernel
set_option maxRecDepth 65536 in
theorem w_hears : about1.hears theMethod below0 = true := by decide +kernel
set_option maxRecDepth 65536 in
theorem w_ripe : about1.ripe theMethod args0 below0 = true := by decide +kernel
theorem w_running : about1.status = .running := rfl
set_option maxRecDepth 65536 in
theorem w_room : about1.hasRoom e0.platform room_1 = true :=
  launch0.hasRoom_least _ room_1 (by decide +kernel) (by decide +kernel) (by decide +kernel) (by decide +kernel) (by decide +kernel) (by decide +kernel)
theorem allAtoms_all (ts : List Jvm.Cond) (a : Array Jvm.Value) (st : Jvm.State) : (allAtoms ts).before a st = ts.all (fun c => c.before a st) := by
  induction ts with
  | nil => rfl
  | cons c t ih =>
    show (Jvm.Cond.and c (allAtoms t)).before a st = _
    rw [Jvm.Cond.before_and, ih, List.all_cons]
def words1 : List Jvm.Cond := Jvm.Cond.code x code maxLocals ret :: tables_1
/-- a 'code' word, met by the world's own term for the bytes: nothing is compared byte by byte -/
theorem code_word {y : MethodName} {bytes : ByteArray} {mx : Nat} {rt : Option FieldType} {a : Array Value} {s : State} {m : MethodId} {meth : Method} {c : Code} (h1 : s.methodNamed? y = some m) (h2 : s.vm.method? m = some meth) (h3 : meth.code = some c) (h4 : c.code = bytes)
    (h5 : (c.maxLocals == mx && c.exceptionTable.isEmpty && decide (c.maxStack ≤ mostOperands) && decide (meth.sig.returnType = rt) && !meth.locks && decide (parseMethodDescriptor y.desc = some meth.sig)) = true) : (Jvm.Cond.code y bytes mx rt).before a s = true := by
  simp only [Bool.and_eq_true, beq_iff_eq, Bool.not_eq_true', decide_eq_true_eq] at h5
  obtain ⟨⟨⟨⟨⟨g1, g2⟩, g3⟩, g4⟩, g5⟩, g6⟩ := h5
  simp [Cond.before, Cond.holds, Cond.value, h1, h2, h3, h4, g1, g2, g3, g4, g5, g6]
def isCode : Jvm.Cond → Bool
  | .code _ _ _ _ => true
  | _ => false
theorem all_split {L : List Jvm.Cond} {P : Jvm.Cond → Bool} (h1 : L.all (fun c => isCode c || P c) = true) (h2 : ∀ c ∈ L.filter isCode, P c = true) : L.all P = true := by
  refine List.all_eq_true.mpr fun c hc => ?_
  have h := List.all_eq_true.mp h1 c hc
  rcases Bool.eq_false_or_eq_true (isCode c) with hi | hi
  · exact h2 c (List.mem_filter.mpr ⟨hc, hi⟩)
  · simpa [hi] using h
set_option maxRecDepth 65536 in
theorem w_c0 : (Jvm.Cond.code x code maxLocals ret).before args0 about1 = true := code_word (m := ⟨1, 4⟩) (meth := k1m4) (c := k1c4) (by decide +kernel) rfl rfl rfl (by decide +kernel)
set_option maxRecDepth 65536 in
theorem w_c1 : (Jvm.Cond.code ({ cls := "crossmarc/reading/CursorPassPinLaw", name := "unit", desc := "(II)I" } : Jvm.MethodName) method_2_code (3 : Nat) (Option.some Jvm.ClassFile.FieldType.int)).before args0 about1 = true := code_word (m := ⟨1, 1⟩) (meth := k1m1) (c := k1c1) (by decide +kernel) rfl rfl rfl (by decide +kernel)
set_option maxRecDepth 65536 in
theorem w_c2 : (Jvm.Cond.code ({ cls := "crossmarc/reading/Cursor", name := "<init>", desc := "(Lcrossmarc/reading/CheckedEncoding;)V" } : Jvm.MethodName) prog_53_method_1_code (2 : Nat) (Option.none : Option Jvm.ClassFile.FieldType)).before args0 about1 = true := code_word (m := ⟨2, 0⟩) (meth := k2m0) (c := k2c0) (by decide +kernel) rfl rfl rfl (by decide +kernel)
set_option maxRecDepth 65536 in
theorem w_c3 : (Jvm.Cond.code ({ cls := "java/lang/Object", name := "<init>", desc := "()V" } : Jvm.MethodName) object_method_1_code (1 : Nat) (Option.none : Option Jvm.ClassFile.FieldType)).before args0 about1 = true := code_word (m := ⟨0, 0⟩) (meth := k0m0) (c := k0c0) (by decide +kernel) rfl rfl rfl (by decide +kernel)
set_option maxRecDepth 65536 in
theorem w_c4 : (Jvm.Cond.code ({ cls := "crossmarc/reading/Cursor", name := "passAsciiText", desc := "(I)V" } : Jvm.MethodName) prog_53_method_9_code (2 : Nat) (Option.none : Option Jvm.ClassFile.FieldType)).before args0 about1 = true := code_word (m := ⟨2, 3⟩) (meth := k2m3) (c := k2c3) (by decide +kernel) rfl rfl rfl (by decide +kernel)
set_option maxRecDepth 65536 in
theorem w_c5 : (Jvm.Cond.code ({ cls := "crossmarc/reading/Cursor", name := "pass", desc := "(I)V" } : Jvm.MethodName) prog_53_method_10_code (2 : Nat) (Option.none : Option Jvm.ClassFile.FieldType)).before args0 about1 = true := code_word (m := ⟨2, 4⟩) (meth := k2m4) (c := k2c4) (by decide +kernel) rfl rfl rfl (by decide +kernel)
set_option maxRecDepth 65536 in
theorem w_c6 : (Jvm.Cond.code ({ cls := "crossmarc/reading/CursorPassPinLaw", name := "newLines", desc := "(ZI)I" } : Jvm.MethodName) method_3_code (2 : Nat) (Option.some Jvm.ClassFile.FieldType.int)).before args0 about1 = true := code_word (m := ⟨1, 2⟩) (meth := k1m2) (c := k1c2) (by decide +kernel) rfl rfl rfl (by decide +kernel)
set_option maxRecDepth 65536 in
theorem w_c7 : (Jvm.Cond.code ({ cls := "crossmarc/reading/CursorPassPinLaw", name := "nextColumn", desc := "(II)I" } : Jvm.MethodName) method_4_code (2 : Nat) (Option.some Jvm.ClassFile.FieldType.int)).before args0 about1 = true := code_word (m := ⟨1, 3⟩) (meth := k1m3) (c := k1c3) (by decide +kernel) rfl rfl rfl (by decide +kernel)
set_option maxRecDepth 65536 in
theorem w_c8 : (Jvm.Cond.code ({ cls := "crossmarc/reading/Cursor", name := "compareTo", desc := "(II)I" } : Jvm.MethodName) prog_53_method_7_code (4 : Nat) (Option.some Jvm.ClassFile.FieldType.int)).before args0 about1 = true := code_word (m := ⟨2, 2⟩) (meth := k2m2) (c := k2c2) (by decide +kernel) rfl rfl rfl (by decide +kernel)
set_option maxRecDepth 65536 in
theorem w_c9 : (Jvm.Cond.code ({ cls := "java/lang/Integer", name := "compare", desc := "(II)I" } : Jvm.MethodName) jdk_33_method_40_code (2 : Nat) (Option.some Jvm.ClassFile.FieldType.int)).before args0 about1 = true := code_word (m := ⟨10, 0⟩) (meth := k10m0) (c := k10c0) (by decide +kernel) rfl rfl rfl (by decide +kernel)
set_option maxRecDepth 65536 in
theorem w_c10 : (Jvm.Cond.code ({ cls := "crossmarc/reading/Cursor", name := "position", desc := "()J" } : Jvm.MethodName) prog_53_method_5_code (1 : Nat) (Option.some Jvm.ClassFile.FieldType.long)).before args0 about1 = true := code_word (m := ⟨2, 1⟩) (meth := k2m1) (c := k2c1) (by decide +kernel) rfl rfl rfl (by decide +kernel)
def codes1 : List Jvm.Cond := [Jvm.Cond.code x code maxLocals ret, Jvm.Cond.code ({ cls := "crossmarc/reading/CursorPassPinLaw", name := "unit", desc := "(II)I" } : Jvm.MethodName) method_2_code (3 : Nat) (Option.some Jvm.ClassFile.FieldType.int), Jvm.Cond.code ({ cls := "crossmarc/reading/Cursor", name := "<init>", desc := "(Lcrossmarc/reading/CheckedEncoding;)V" } : Jvm.MethodName) prog_53_method_1_code (2 : Nat) (Option.none : Option Jvm.ClassFile.FieldType), Jvm.Cond.code ({ cls := "java/lang/Object", name := "<init>", desc := "()V" } : Jvm.MethodName) object_method_1_code (1 : Nat) (Option.none : Option Jvm.ClassFile.FieldType), Jvm.Cond.code ({ cls := "crossmarc/reading/Cursor", name := "passAsciiText", desc := "(I)V" } : Jvm.MethodName) prog_53_method_9_code (2 : Nat) (Option.none : Option Jvm.ClassFile.FieldType), Jvm.Cond.code ({ cls := "crossmarc/reading/Cursor", name := "pass", desc := "(I)V" } : Jvm.MethodName) prog_53_method_10_code (2 : Nat) (Option.none : Option Jvm.ClassFile.FieldType), Jvm.Cond.code ({ cls := "crossmarc/reading/CursorPassPinLaw", name := "newLines", desc := "(ZI)I" } : Jvm.MethodName) method_3_code (2 : Nat) (Option.some Jvm.ClassFile.FieldType.int), Jvm.Cond.code ({ cls := "crossmarc/reading/CursorPassPinLaw", name := "nextColumn", desc := "(II)I" } : Jvm.MethodName) method_4_code (2 : Nat) (Option.some Jvm.ClassFile.FieldType.int), Jvm.Cond.code ({ cls := "crossmarc/reading/Cursor", name := "compareTo", desc := "(II)I" } : Jvm.MethodName) prog_53_method_7_code (4 : Nat) (Option.some Jvm.ClassFile.FieldType.int), Jvm.Cond.code ({ cls := "java/lang/Integer", name := "compare", desc := "(II)I" } : Jvm.MethodName) jdk_33_method_40_code (2 : Nat) (Option.some Jvm.ClassFile.FieldType.int), Jvm.Cond.code ({ cls := "crossmarc/reading/Cursor", name := "position", desc := "()J" } : Jvm.MethodName) prog_53_method_5_code (1 : Nat) (Option.some Jvm.ClassFile.FieldType.long)]
set_option maxRecDepth 65536 in
theorem codes_eq : words1.filter isCode = codes1 := rfl
theorem w_codes : ∀ c ∈ words1.filter isCode, c.before args0 about1 = true := by
  rw [codes_eq]
  intro c hc
  simp only [codes1, List.mem_cons, List.not_mem_nil, or_false] at hc
  rcases hc with rfl | rfl | rfl | rfl | rfl | rfl | rfl | rfl | rfl | rfl | rfl
  · exact w_c0
  · exact w_c1
  · exact w_c2
  · exact w_c3
  · exact w_c4
  · exact w_c5
  · exact w_c6
  · exact w_c7
  · exact w_c8
  · exact w_c9
  · exact w_c10
set_option maxRecDepth 65536 in
theorem w_t1 : (words1.take 24).all (fun c => isCode c || c.before args0 about1) = true := by decide +kernel
set_option maxRecDepth 65536 in
theorem w_t2 : ((words1.drop 24).take 24).all (fun c => isCode c || c.before args0 about1) = true := by decide +kernel
set_option maxRecDepth 65536 in
theorem w_t3 : ((words1.drop 24).drop 24).all (fun c => isCode c || c.before args0 about1) = true := by decide +kernel
theorem w_tables : (allAtoms (Jvm.Cond.code x code maxLocals ret :: tables_1)).before args0 about1 = true := by
  rw [allAtoms_all]
  show words1.all (fun c => c.before args0 about1) = true
  refine all_split ?_ w_codes
  rw [← List.take_append_drop 24 words1, List.all_append, w_t1, ← List.take_append_drop 24 (words1.drop 24), List.all_append, w_t2, w_t3]
  rfl
set_option maxRecDepth 65536 in
theorem w_case : (Jvm.Cond.and given_1 narrow_1).before args0 about1 = true := by decide +kernel
theorem w_applies : (headSpec (Jvm.Cond.code x code maxLocals ret :: tables_1) room_1).applies x e0.platform about1 = true :=
  (Spec.applies_iff w_frames).mpr ⟨w_running, w_runnable, w_alone, w_named, w_hears, w_ripe, w_room, w_tables⟩
theorem atStart : AtStart classFile x code maxLocals ret World_1 tables_1 room_1 Calls_1 rest_1 Pre_1 launch0 p0 e0 about1 theMethod args0 below0 :=
  ⟨lists_1, trivial, launch0.admits_env _ _ _, launch0.least_env, fairChoices_fair.cas, fairChoices_fair.clock, w_frames, w_args, w_heap, w_applies, trivial, trivial, w_case⟩
end start1
theorem witness_1 : WitnessClaimed_1 := ⟨start1.p0, start1.e0, start1.about1, start1.theMethod, start1.args0, start1.below0, start1.atStart⟩
end Jvm.Pilot.@@N@@
