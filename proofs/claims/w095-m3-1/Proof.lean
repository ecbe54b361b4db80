import JvmDerived
import JvmDerived.Pilot.@@N@@Statement
import JvmDerived.Pilot.@@N@@Code
set_option linter.unusedVariables false
set_option linter.unusedSimpArgs false
namespace Jvm.Pilot.@@N@@
open Jvm Jvm.ClassFile Sem Op Lib Jvm.Free Jvm.Stand Jvm.LawKit Jvm.RoadKit Bundle Jvm.Pilot.@@N@@.Jvm.D
section OwnKit
variable {p : Program} {l : Launch} {e : Env} {R : Room} {s : State} {m : MethodId} {args : Array Value} {below : List Frame} {meth : Method} {c : Code} {T U W : State} {locs : List Loc} {cells slots : Nat} {Q : Option Value → Heap → List Loc → Prop} {K N : Nat}
/-- from U the body comes to its end, and Q holds there -/
def own_Ends (p : Program) (e : Env) (below : List Frame) (s : State) (Q : Option Value → Heap → List Loc → Prop) (K N : Nat) (U : State) : Prop :=
  ∃ s₂ o, Steps p.tables e below U s₂ ∧ s₂.status = .running ∧ Ended s₂ below o ∧ ∃ v L, o = .returned v ∧ Q v s₂.heap L ∧ FrameEnd s o s₂ L K N
theorem own_by {V : State} (h : ∀ t, Steps p.tables e below V t → Steps p.tables e below U t) (k : own_Ends p e below s Q K N V) : own_Ends p e below s Q K N U := by
  obtain ⟨s2, o, h1, h2⟩ := k; exact ⟨s2, o, h _ h1, h2⟩
theorem own_ret0 (X : Stand p l e R s m args below meth c T locs cells slots) (hx : p.tables.exec = Jvm.exec) (hlk : meth.locks = false) {h : Heap} (eT : T.heap = h) {pc : Nat} {Ls : Array Slot} (hret : meth.sig.returnType = none)
    (hd : decode c.code pc = .ok (.return_, 1)) (hQ : Q none h locs) (hK : cells ≤ K) (hN : slots ≤ N) : own_Ends p e below s Q K N (T.setTop (mkF m pc Ls [])) := by
  obtain ⟨fs, hr, hrun, hended, hW, hsame⟩ := X.leave (v := none) (fun _ => rfl) hlk
  exact ⟨_, _, X.returnOut hx hret hd hr, hrun, hended, _, _, rfl, (by subst eT; exact hQ), ⟨_, rfl⟩, hW, hsame.mono hK hN⟩
theorem own_retI (X : Stand p l e R s m args below meth c T locs cells slots) (hx : p.tables.exec = Jvm.exec) (hlk : meth.locks = false) {h : Heap} (eT : T.heap = h) {pc : Nat} {Ls : Array Slot} {z : Int32} {rest : List Value} (hret : meth.sig.returnType = some .int)
    (hd : decode c.code pc = .ok (.ireturn, 1)) (hQ : Q (some (.int z)) h locs) (hK : cells ≤ K) (hN : slots ≤ N) : own_Ends p e below s Q K N (T.setTop (mkF m pc Ls (.int z :: rest))) := by
  obtain ⟨fs, hr, hrun, hended, hW, hsame⟩ := X.leave (v := some (.int z)) (fun h => by rw [hret] at h; cases h) hlk
  exact ⟨_, _, retOut X hx hret rfl (Or.inl ⟨rfl, Or.inl rfl, z, rfl⟩) hd hr, hrun, hended, _, _, rfl, (by subst eT; exact hQ), ⟨_, rfl⟩, hW, hsame.mono hK hN⟩
theorem own_retN (X : Stand p l e R s m args below meth c T locs cells slots) (hx : p.tables.exec = Jvm.exec) (hlk : meth.locks = false) {h : Heap} (eT : T.heap = h) {pc : Nat} {Ls : Array Slot} {z : Int32} {t : FieldType} {rest : List Value} (hret : meth.sig.returnType = some t) (ht : t = .boolean ∨ t = .byte ∨ t = .char ∨ t = .short) (hz : nar t z = z)
    (hd : decode c.code pc = .ok (.ireturn, 1)) (hQ : Q (some (.int z)) h locs) (hK : cells ≤ K) (hN : slots ≤ N) : own_Ends p e below s Q K N (T.setTop (mkF m pc Ls (.int z :: rest))) := by
  obtain ⟨fs, hr, hrun, hended, hW, hsame⟩ := X.leave (v := some (.int z)) (fun h => by rw [hret] at h; cases h) hlk
  exact ⟨_, _, retN X hx hret ht hd (by rw [hz]; exact hr), hrun, hended, _, _, rfl, (by subst eT; exact hQ), ⟨_, rfl⟩, hW, hsame.mono hK hN⟩
theorem own_retL (X : Stand p l e R s m args below meth c T locs cells slots) (hx : p.tables.exec = Jvm.exec) (hlk : meth.locks = false) {h : Heap} (eT : T.heap = h) {pc : Nat} {Ls : Array Slot} {z : Int64} {rest : List Value} (hret : meth.sig.returnType = some .long)
    (hd : decode c.code pc = .ok (.lreturn, 1)) (hQ : Q (some (.long z)) h locs) (hK : cells ≤ K) (hN : slots ≤ N) : own_Ends p e below s Q K N (T.setTop (mkF m pc Ls (.long z :: rest))) := by
  obtain ⟨fs, hr, hrun, hended, hW, hsame⟩ := X.leave (v := some (.long z)) (fun h => by rw [hret] at h; cases h) hlk
  exact ⟨_, _, retOut X hx hret rfl (Or.inr (Or.inl ⟨rfl, rfl, z, rfl⟩)) hd hr, hrun, hended, _, _, rfl, (by subst eT; exact hQ), ⟨_, rfl⟩, hW, hsame.mono hK hN⟩
theorem own_retA (X : Stand p l e R s m args below meth c T locs cells slots) (hx : p.tables.exec = Jvm.exec) (hlk : meth.locks = false) {h : Heap} (eT : T.heap = h) {pc : Nat} {Ls : Array Slot} {w : Value} {t : FieldType} {rest : List Value} (hw : w.isRef = true) (hret : meth.sig.returnType = some t) (ht : t.isReference = true)
    (hd : decode c.code pc = .ok (.areturn, 1)) (hQ : Q (some w) h locs) (hK : cells ≤ K) (hN : slots ≤ N) : own_Ends p e below s Q K N (T.setTop (mkF m pc Ls (w :: rest))) := by
  obtain ⟨fs, hr, hrun, hended, hW, hsame⟩ := X.leave (v := some w) (fun h => by rw [hret] at h; cases h) hlk
  exact ⟨_, _, retOut X hx hret (by cases t <;> cases w <;> first | rfl | (simp [FieldType.isReference] at ht) | (simp [Value.isRef] at hw)) (Or.inr (Or.inr (Or.inr (Or.inr ⟨rfl, ht, hw⟩)))) hd hr, hrun, hended, _, _, rfl, (by subst eT; exact hQ), ⟨_, rfl⟩, hW, hsame.mono hK hN⟩

theorem own_neg1 : (-1 : Int32).toInt = -1 := rfl
end OwnKit
theorem own_selPriv {s : State} {args args' : Array Value} {y : MethodName} {n : Nat} (wi : (Cond.instantiable y.cls n).before args s = true) (wp : (Cond.privateMethod y).before args' s = true) (wm : (Cond.instanceMethod y).before args s = true) (hy : y.cls ≠ "java/lang/invoke/MethodHandle" ∧ y.cls ≠ "java/lang/invoke/VarHandle") : (Cond.selects y.cls y y).before args s = true := by
  obtain ⟨c, k, h1, h2, h3, h4, -⟩ := Cond.instantiable_spec wi
  exact selects_self_of_private h1 h2 (Bool.or_eq_false_iff.mp h4).1 (Cond.privateMethod_at wp) wm hy
section OwnWords
variable {args : Array Value} {s : State} {t : Term} {x : Addr} {C n d : String} {cl : Cell} {ty : FieldType}
theorem own_evI {k : Int32} (h : (Cond.eq t (.int k)).value args s none s [] = some true) : t.eval args s none [] s = some (.int k) := by
  obtain ⟨y, z, h1, h2, h3, -⟩ := cmp_v (Or.inl h)
  have h2' : z = .int k := (Option.some.inj h2).symm
  subst h2'
  cases y with
  | int v =>
    have q : v = k := by simpa [Cond.value, h1, Term.eval] using h
    rw [h1, q]
  | _ => simp [Kin, Value.isRef] at h3
theorem own_fldS {k : Int32} (ht : t.eval args s none [] s = some (.ref x)) (h : (Cond.eq (.field t C n d) (.int k)).value args s none s [] = some true) : Fld s s.heap x C n d (.int k) :=
  Fld.start ((fld_at ht).symm.trans (own_evI h))
theorem own_lenEv {k : Int32} (ev : t.eval args s none [] s = some (.ref x)) (A : Arr s s.heap x cl ty) (h : (Cond.eq (.length t) (.int k)).value args s none s [] = some true) : cl.slots.size.toInt32 = k ∧ cl.slots.size < 2 ^ 31 := by
  have e := own_evI h
  have hat := A.fin (Vm.Alike.refl _)
  simp only [Term.eval, ev, hat, Option.bind_eq_bind, Option.bind_some] at e
  split at e
  · rename_i hlt
    exact ⟨Value.int.inj (Option.some.inj e), hlt⟩
  · cases e
theorem own_len256 (ev : t.eval args s none [] s = some (.ref x)) (A : Arr s s.heap x cl ty) (h : (Cond.eq (.length t) (.int 256)).value args s none s [] = some true) : cl.slots.size = 256 := by
  obtain ⟨h1, h2⟩ := own_lenEv ev A h
  have q := len_toInt h2
  rw [h1] at q
  have q' : (256 : Int32).toInt = 256 := rfl
  omega
theorem own_cacheEl {K : String} {E : Jvm.Cond} (ev : (Term.static K n d).eval args s none [] s = some (.ref x)) (A : Arr s s.heap x cl ty) (hsz : cl.slots.size = 256) (h : (Cond.all (.static K n d) (.and (.exactly (.elem (.static K n d) (.index 0)) C) E)).value args s none s [] = some true) : ∀ j, j < 256 → ∃ b, cl.slots[j]? = some (.ref b) ∧ Exa s s.heap b C := by
  intro j hj
  have hat := A.fin (Vm.Alike.refl _)
  obtain ⟨h1, -⟩ := and_e (Cond.all_elim ev hat h j (by rw [hsz]; exact hj))
  obtain ⟨b, eb⟩ := exa_v h1
  have evj : (Term.static K n d).eval args s none [j] s = some (.ref x) := ev
  have q := (elem_in eb evj (Term.index_eval j) A.1).2
  rw [show j.toInt32 = Int32.ofNat j from rfl, Int32.toNatClampNeg_ofNat_of_lt (by omega)] at q
  exact ⟨b, q, exa_at eb h1⟩
theorem own_elemI {i k : Int32} (ev : t.eval args s none [] s = some (.ref x)) (A : Arr s s.heap x cl ty) (h : (Cond.eq (.elem t (.int i)) (.int k)).value args s none s [] = some true) : ¬ (i < 0 ∨ cl.slots.size ≤ i.toNatClampNeg) ∧ cl.slots[i.toNatClampNeg]? = some (.int k) :=
  elem_in (own_evI h) ev (Term.int_eval i) A.1
end OwnWords

theorem own_d_jdk_2529_3_0 : decode jdk_2529_method_3_code 0 = .ok (.iload_n 3, 1) := by decide +kernel
theorem own_d_jdk_2529_3_1 : decode jdk_2529_method_3_code 1 = .ok (.iload_n 2, 1) := by decide +kernel
theorem own_d_jdk_2529_3_2 : decode jdk_2529_method_3_code 2 = .ok (.isub, 1) := by decide +kernel
theorem own_d_jdk_2529_3_3 : decode jdk_2529_method_3_code 3 = .ok (.istore 4, 2) := by decide +kernel
theorem own_d_jdk_2529_3_5 : decode jdk_2529_method_3_code 5 = .ok (.iload_n 1, 1) := by decide +kernel
theorem own_d_jdk_2529_3_6 : decode jdk_2529_method_3_code 6 = .ok (.iconst 1, 1) := by decide +kernel
theorem own_d_jdk_2529_3_7 : decode jdk_2529_method_3_code 7 = .ok (.if_icmp .le 61, 3) := by decide +kernel
theorem own_d_jdk_2529_3_68 : decode jdk_2529_method_3_code 68 = .ok (.aconst_null, 1) := by decide +kernel
theorem own_d_jdk_2529_3_69 : decode jdk_2529_method_3_code 69 = .ok (.aload_n 0, 1) := by decide +kernel
theorem own_d_jdk_2529_3_70 : decode jdk_2529_method_3_code 70 = .ok (.iconst 0, 1) := by decide +kernel
theorem own_d_jdk_2529_3_71 : decode jdk_2529_method_3_code 71 = .ok (.iload_n 2, 1) := by decide +kernel
theorem own_d_jdk_2529_3_72 : decode jdk_2529_method_3_code 72 = .ok (.iload_n 3, 1) := by decide +kernel
theorem own_d_jdk_2529_3_73 : decode jdk_2529_method_3_code 73 = .ok (.invokestatic 26, 3) := by decide +kernel
theorem own_d_jdk_2529_3_76 : decode jdk_2529_method_3_code 76 = .ok (.return_, 1) := by decide +kernel
theorem own_d_jdk_2529_4_0 : decode jdk_2529_method_4_code 0 = .ok (.iload 4, 2) := by decide +kernel
theorem own_d_jdk_2529_4_2 : decode jdk_2529_method_4_code 2 = .ok (.iconst 1, 1) := by decide +kernel
theorem own_d_jdk_2529_4_3 : decode jdk_2529_method_4_code 3 = .ok (.isub, 1) := by decide +kernel
theorem own_d_jdk_2529_4_4 : decode jdk_2529_method_4_code 4 = .ok (.istore 5, 2) := by decide +kernel
theorem own_d_jdk_2529_4_6 : decode jdk_2529_method_4_code 6 = .ok (.iload 4, 2) := by decide +kernel
theorem own_d_jdk_2529_4_8 : decode jdk_2529_method_4_code 8 = .ok (.iload_n 3, 1) := by decide +kernel
theorem own_d_jdk_2529_4_9 : decode jdk_2529_method_4_code 9 = .ok (.isub, 1) := by decide +kernel
theorem own_d_jdk_2529_4_10 : decode jdk_2529_method_4_code 10 = .ok (.istore 6, 2) := by decide +kernel
theorem own_d_jdk_2529_4_12 : decode jdk_2529_method_4_code 12 = .ok (.iload 6, 2) := by decide +kernel
theorem own_d_jdk_2529_4_14 : decode jdk_2529_method_4_code 14 = .ok (.bipush 65, 2) := by decide +kernel
theorem own_d_jdk_2529_4_16 : decode jdk_2529_method_4_code 16 = .ok (.iload_n 2, 1) := by decide +kernel
theorem own_d_jdk_2529_4_17 : decode jdk_2529_method_4_code 17 = .ok (.iadd, 1) := by decide +kernel
theorem own_d_jdk_2529_4_18 : decode jdk_2529_method_4_code 18 = .ok (.if_icmp .ge 28, 3) := by decide +kernel
theorem own_d_jdk_2529_4_21 : decode jdk_2529_method_4_code 21 = .ok (.iload_n 2, 1) := by decide +kernel
theorem own_d_jdk_2529_4_22 : decode jdk_2529_method_4_code 22 = .ok (.iconst 1, 1) := by decide +kernel
theorem own_d_jdk_2529_4_23 : decode jdk_2529_method_4_code 23 = .ok (.iand, 1) := by decide +kernel
theorem own_d_jdk_2529_4_24 : decode jdk_2529_method_4_code 24 = .ok (.ifCond .le 22, 3) := by decide +kernel
theorem own_d_jdk_2529_4_46 : decode jdk_2529_method_4_code 46 = .ok (.iload 6, 2) := by decide +kernel
theorem own_d_jdk_2529_4_48 : decode jdk_2529_method_4_code 48 = .ok (.bipush 44, 2) := by decide +kernel
theorem own_d_jdk_2529_4_50 : decode jdk_2529_method_4_code 50 = .ok (.if_icmp .ge 11, 3) := by decide +kernel
theorem own_d_jdk_2529_4_53 : decode jdk_2529_method_4_code 53 = .ok (.aload_n 1, 1) := by decide +kernel
theorem own_d_jdk_2529_4_54 : decode jdk_2529_method_4_code 54 = .ok (.iload_n 3, 1) := by decide +kernel
theorem own_d_jdk_2529_4_55 : decode jdk_2529_method_4_code 55 = .ok (.iload 4, 2) := by decide +kernel
theorem own_d_jdk_2529_4_57 : decode jdk_2529_method_4_code 57 = .ok (.invokestatic 34, 3) := by decide +kernel
theorem own_d_jdk_2529_4_60 : decode jdk_2529_method_4_code 60 = .ok (.return_, 1) := by decide +kernel
theorem own_d_jdk_2529_6_0 : decode jdk_2529_method_6_code 0 = .ok (.iload_n 1, 1) := by decide +kernel
theorem own_d_jdk_2529_6_1 : decode jdk_2529_method_6_code 1 = .ok (.istore 4, 2) := by decide +kernel
theorem own_d_jdk_2529_6_3 : decode jdk_2529_method_6_code 3 = .ok (.iinc 4 1, 3) := by decide +kernel
theorem own_d_jdk_2529_6_6 : decode jdk_2529_method_6_code 6 = .ok (.iload 4, 2) := by decide +kernel
theorem own_d_jdk_2529_6_8 : decode jdk_2529_method_6_code 8 = .ok (.iload_n 2, 1) := by decide +kernel
theorem own_d_jdk_2529_6_9 : decode jdk_2529_method_6_code 9 = .ok (.if_icmp .ge 58, 3) := by decide +kernel
theorem own_d_jdk_2529_6_12 : decode jdk_2529_method_6_code 12 = .ok (.aload_n 0, 1) := by decide +kernel
theorem own_d_jdk_2529_6_13 : decode jdk_2529_method_6_code 13 = .ok (.iload 4, 2) := by decide +kernel
theorem own_d_jdk_2529_6_15 : decode jdk_2529_method_6_code 15 = .ok (.dup, 1) := by decide +kernel
theorem own_d_jdk_2529_6_16 : decode jdk_2529_method_6_code 16 = .ok (.istore_n 3, 1) := by decide +kernel
theorem own_d_jdk_2529_6_17 : decode jdk_2529_method_6_code 17 = .ok (.iaload, 1) := by decide +kernel
theorem own_d_jdk_2529_6_18 : decode jdk_2529_method_6_code 18 = .ok (.istore 5, 2) := by decide +kernel
theorem own_d_jdk_2529_6_20 : decode jdk_2529_method_6_code 20 = .ok (.iload 5, 2) := by decide +kernel
theorem own_d_jdk_2529_6_22 : decode jdk_2529_method_6_code 22 = .ok (.aload_n 0, 1) := by decide +kernel
theorem own_d_jdk_2529_6_23 : decode jdk_2529_method_6_code 23 = .ok (.iload_n 3, 1) := by decide +kernel
theorem own_d_jdk_2529_6_24 : decode jdk_2529_method_6_code 24 = .ok (.iconst 1, 1) := by decide +kernel
theorem own_d_jdk_2529_6_25 : decode jdk_2529_method_6_code 25 = .ok (.isub, 1) := by decide +kernel
theorem own_d_jdk_2529_6_26 : decode jdk_2529_method_6_code 26 = .ok (.iaload, 1) := by decide +kernel
theorem own_d_jdk_2529_6_27 : decode jdk_2529_method_6_code 27 = .ok (.if_icmp .ge 37, 3) := by decide +kernel
theorem own_d_jdk_2529_6_30 : decode jdk_2529_method_6_code 30 = .ok (.iinc 3 (-1), 3) := by decide +kernel
theorem own_d_jdk_2529_6_33 : decode jdk_2529_method_6_code 33 = .ok (.iload_n 3, 1) := by decide +kernel
theorem own_d_jdk_2529_6_34 : decode jdk_2529_method_6_code 34 = .ok (.iload_n 1, 1) := by decide +kernel
theorem own_d_jdk_2529_6_35 : decode jdk_2529_method_6_code 35 = .ok (.if_icmp .lt 22, 3) := by decide +kernel
theorem own_d_jdk_2529_6_38 : decode jdk_2529_method_6_code 38 = .ok (.iload 5, 2) := by decide +kernel
theorem own_d_jdk_2529_6_40 : decode jdk_2529_method_6_code 40 = .ok (.aload_n 0, 1) := by decide +kernel
theorem own_d_jdk_2529_6_41 : decode jdk_2529_method_6_code 41 = .ok (.iload_n 3, 1) := by decide +kernel
theorem own_d_jdk_2529_6_42 : decode jdk_2529_method_6_code 42 = .ok (.iaload, 1) := by decide +kernel
theorem own_d_jdk_2529_6_43 : decode jdk_2529_method_6_code 43 = .ok (.if_icmp .ge 14, 3) := by decide +kernel
theorem own_d_jdk_2529_6_46 : decode jdk_2529_method_6_code 46 = .ok (.aload_n 0, 1) := by decide +kernel
theorem own_d_jdk_2529_6_47 : decode jdk_2529_method_6_code 47 = .ok (.iload_n 3, 1) := by decide +kernel
theorem own_d_jdk_2529_6_48 : decode jdk_2529_method_6_code 48 = .ok (.iconst 1, 1) := by decide +kernel
theorem own_d_jdk_2529_6_49 : decode jdk_2529_method_6_code 49 = .ok (.iadd, 1) := by decide +kernel
theorem own_d_jdk_2529_6_50 : decode jdk_2529_method_6_code 50 = .ok (.aload_n 0, 1) := by decide +kernel
theorem own_d_jdk_2529_6_51 : decode jdk_2529_method_6_code 51 = .ok (.iload_n 3, 1) := by decide +kernel
theorem own_d_jdk_2529_6_52 : decode jdk_2529_method_6_code 52 = .ok (.iaload, 1) := by decide +kernel
theorem own_d_jdk_2529_6_53 : decode jdk_2529_method_6_code 53 = .ok (.iastore, 1) := by decide +kernel
theorem own_d_jdk_2529_6_54 : decode jdk_2529_method_6_code 54 = .ok (.goto (-24), 3) := by decide +kernel
theorem own_d_jdk_2529_6_57 : decode jdk_2529_method_6_code 57 = .ok (.aload_n 0, 1) := by decide +kernel
theorem own_d_jdk_2529_6_58 : decode jdk_2529_method_6_code 58 = .ok (.iload_n 3, 1) := by decide +kernel
theorem own_d_jdk_2529_6_59 : decode jdk_2529_method_6_code 59 = .ok (.iconst 1, 1) := by decide +kernel
theorem own_d_jdk_2529_6_60 : decode jdk_2529_method_6_code 60 = .ok (.iadd, 1) := by decide +kernel
theorem own_d_jdk_2529_6_61 : decode jdk_2529_method_6_code 61 = .ok (.iload 5, 2) := by decide +kernel
theorem own_d_jdk_2529_6_63 : decode jdk_2529_method_6_code 63 = .ok (.iastore, 1) := by decide +kernel
theorem own_d_jdk_2529_6_64 : decode jdk_2529_method_6_code 64 = .ok (.goto (-61), 3) := by decide +kernel
theorem own_d_jdk_2529_6_67 : decode jdk_2529_method_6_code 67 = .ok (.return_, 1) := by decide +kernel
theorem own_d_jdk_29_65_0 : decode jdk_29_method_65_code 0 = .ok (.iload_n 0, 1) := by decide +kernel
theorem own_d_jdk_29_65_1 : decode jdk_29_method_65_code 1 = .ok (.iload_n 1, 1) := by decide +kernel
theorem own_d_jdk_29_65_2 : decode jdk_29_method_65_code 2 = .ok (.if_icmp .lt 7, 3) := by decide +kernel
theorem own_d_jdk_29_65_5 : decode jdk_29_method_65_code 5 = .ok (.iload_n 0, 1) := by decide +kernel
theorem own_d_jdk_29_65_6 : decode jdk_29_method_65_code 6 = .ok (.goto 4, 3) := by decide +kernel
theorem own_d_jdk_29_65_9 : decode jdk_29_method_65_code 9 = .ok (.iload_n 1, 1) := by decide +kernel
theorem own_d_jdk_29_65_10 : decode jdk_29_method_65_code 10 = .ok (.ireturn, 1) := by decide +kernel
theorem own_d_jdk_29_69_0 : decode jdk_29_method_69_code 0 = .ok (.iload_n 0, 1) := by decide +kernel
theorem own_d_jdk_29_69_1 : decode jdk_29_method_69_code 1 = .ok (.iload_n 1, 1) := by decide +kernel
theorem own_d_jdk_29_69_2 : decode jdk_29_method_69_code 2 = .ok (.if_icmp .gt 7, 3) := by decide +kernel
theorem own_d_jdk_29_69_5 : decode jdk_29_method_69_code 5 = .ok (.iload_n 0, 1) := by decide +kernel
theorem own_d_jdk_29_69_6 : decode jdk_29_method_69_code 6 = .ok (.goto 4, 3) := by decide +kernel
theorem own_d_jdk_29_69_9 : decode jdk_29_method_69_code 9 = .ok (.iload_n 1, 1) := by decide +kernel
theorem own_d_jdk_29_69_10 : decode jdk_29_method_69_code 10 = .ok (.ireturn, 1) := by decide +kernel
theorem own_d_jdk_65_2_0 : decode jdk_65_method_2_code 0 = .ok (.aload_n 0, 1) := by decide +kernel
theorem own_d_jdk_65_2_1 : decode jdk_65_method_2_code 1 = .ok (.iconst 0, 1) := by decide +kernel
theorem own_d_jdk_65_2_2 : decode jdk_65_method_2_code 2 = .ok (.iconst 0, 1) := by decide +kernel
theorem own_d_jdk_65_2_3 : decode jdk_65_method_2_code 3 = .ok (.aload_n 0, 1) := by decide +kernel
theorem own_d_jdk_65_2_4 : decode jdk_65_method_2_code 4 = .ok (.arraylength, 1) := by decide +kernel
theorem own_d_jdk_65_2_5 : decode jdk_65_method_2_code 5 = .ok (.invokestatic 7, 3) := by decide +kernel
theorem own_d_jdk_65_2_8 : decode jdk_65_method_2_code 8 = .ok (.return_, 1) := by decide +kernel
theorem own_d_method_2_0 : decode method_2_code 0 = .ok (.aload_n 0, 1) := by decide +kernel
theorem own_d_method_2_1 : decode method_2_code 1 = .ok (.ifnull 9, 3) := by decide +kernel
theorem own_d_method_2_4 : decode method_2_code 4 = .ok (.aload_n 0, 1) := by decide +kernel
theorem own_d_method_2_5 : decode method_2_code 5 = .ok (.arraylength, 1) := by decide +kernel
theorem own_d_method_2_6 : decode method_2_code 6 = .ok (.iload_n 1, 1) := by decide +kernel
theorem own_d_method_2_7 : decode method_2_code 7 = .ok (.if_icmp .eq 5, 3) := by decide +kernel
theorem own_d_method_2_12 : decode method_2_code 12 = .ok (.iload_n 1, 1) := by decide +kernel
theorem own_d_method_2_13 : decode method_2_code 13 = .ok (.ifCond .ne 5, 3) := by decide +kernel
theorem own_d_method_2_16 : decode method_2_code 16 = .ok (.iconst 1, 1) := by decide +kernel
theorem own_d_method_2_17 : decode method_2_code 17 = .ok (.ireturn, 1) := by decide +kernel
theorem own_d_method_2_18 : decode method_2_code 18 = .ok (.iload_n 1, 1) := by decide +kernel
theorem own_d_method_2_19 : decode method_2_code 19 = .ok (.iconst 1, 1) := by decide +kernel
theorem own_d_method_2_20 : decode method_2_code 20 = .ok (.if_icmp .ne 16, 3) := by decide +kernel
theorem own_d_method_2_23 : decode method_2_code 23 = .ok (.aload_n 0, 1) := by decide +kernel
theorem own_d_method_2_24 : decode method_2_code 24 = .ok (.iconst 0, 1) := by decide +kernel
theorem own_d_method_2_25 : decode method_2_code 25 = .ok (.iaload, 1) := by decide +kernel
theorem own_d_method_2_26 : decode method_2_code 26 = .ok (.iload_n 2, 1) := by decide +kernel
theorem own_d_method_2_27 : decode method_2_code 27 = .ok (.if_icmp .ne 7, 3) := by decide +kernel
theorem own_d_method_2_30 : decode method_2_code 30 = .ok (.iconst 1, 1) := by decide +kernel
theorem own_d_method_2_31 : decode method_2_code 31 = .ok (.goto 4, 3) := by decide +kernel
theorem own_d_method_2_35 : decode method_2_code 35 = .ok (.ireturn, 1) := by decide +kernel
theorem own_d_method_2_36 : decode method_2_code 36 = .ok (.iload_n 1, 1) := by decide +kernel
theorem own_d_method_2_37 : decode method_2_code 37 = .ok (.iconst 2, 1) := by decide +kernel
theorem own_d_method_2_38 : decode method_2_code 38 = .ok (.if_icmp .ne 31, 3) := by decide +kernel
theorem own_d_method_2_41 : decode method_2_code 41 = .ok (.aload_n 0, 1) := by decide +kernel
theorem own_d_method_2_42 : decode method_2_code 42 = .ok (.iconst 0, 1) := by decide +kernel
theorem own_d_method_2_43 : decode method_2_code 43 = .ok (.iaload, 1) := by decide +kernel
theorem own_d_method_2_44 : decode method_2_code 44 = .ok (.iload_n 2, 1) := by decide +kernel
theorem own_d_method_2_45 : decode method_2_code 45 = .ok (.iload_n 3, 1) := by decide +kernel
theorem own_d_method_2_46 : decode method_2_code 46 = .ok (.invokestatic 7, 3) := by decide +kernel
theorem own_d_method_2_49 : decode method_2_code 49 = .ok (.if_icmp .ne 18, 3) := by decide +kernel
theorem own_d_method_2_52 : decode method_2_code 52 = .ok (.aload_n 0, 1) := by decide +kernel
theorem own_d_method_2_53 : decode method_2_code 53 = .ok (.iconst 1, 1) := by decide +kernel
theorem own_d_method_2_54 : decode method_2_code 54 = .ok (.iaload, 1) := by decide +kernel
theorem own_d_method_2_55 : decode method_2_code 55 = .ok (.iload_n 2, 1) := by decide +kernel
theorem own_d_method_2_56 : decode method_2_code 56 = .ok (.iload_n 3, 1) := by decide +kernel
theorem own_d_method_2_57 : decode method_2_code 57 = .ok (.invokestatic 13, 3) := by decide +kernel
theorem own_d_method_2_60 : decode method_2_code 60 = .ok (.if_icmp .ne 7, 3) := by decide +kernel
theorem own_d_method_2_63 : decode method_2_code 63 = .ok (.iconst 1, 1) := by decide +kernel
theorem own_d_method_2_64 : decode method_2_code 64 = .ok (.goto 4, 3) := by decide +kernel
theorem own_d_method_2_68 : decode method_2_code 68 = .ok (.ireturn, 1) := by decide +kernel
theorem own_d_method_2_69 : decode method_2_code 69 = .ok (.iload_n 2, 1) := by decide +kernel
theorem own_d_method_2_70 : decode method_2_code 70 = .ok (.iload_n 3, 1) := by decide +kernel
theorem own_d_method_2_71 : decode method_2_code 71 = .ok (.invokestatic 7, 3) := by decide +kernel
theorem own_d_method_2_74 : decode method_2_code 74 = .ok (.iload 4, 2) := by decide +kernel
theorem own_d_method_2_76 : decode method_2_code 76 = .ok (.invokestatic 7, 3) := by decide +kernel
theorem own_d_method_2_79 : decode method_2_code 79 = .ok (.istore 5, 2) := by decide +kernel
theorem own_d_method_2_81 : decode method_2_code 81 = .ok (.iload_n 2, 1) := by decide +kernel
theorem own_d_method_2_82 : decode method_2_code 82 = .ok (.iload_n 3, 1) := by decide +kernel
theorem own_d_method_2_83 : decode method_2_code 83 = .ok (.invokestatic 13, 3) := by decide +kernel
theorem own_d_method_2_86 : decode method_2_code 86 = .ok (.iload 4, 2) := by decide +kernel
theorem own_d_method_2_88 : decode method_2_code 88 = .ok (.invokestatic 13, 3) := by decide +kernel
theorem own_d_method_2_91 : decode method_2_code 91 = .ok (.istore 6, 2) := by decide +kernel
theorem own_d_method_2_93 : decode method_2_code 93 = .ok (.iload_n 2, 1) := by decide +kernel
theorem own_d_method_2_94 : decode method_2_code 94 = .ok (.iload_n 3, 1) := by decide +kernel
theorem own_d_method_2_95 : decode method_2_code 95 = .ok (.invokestatic 7, 3) := by decide +kernel
theorem own_d_method_2_98 : decode method_2_code 98 = .ok (.iload_n 2, 1) := by decide +kernel
theorem own_d_method_2_99 : decode method_2_code 99 = .ok (.iload_n 3, 1) := by decide +kernel
theorem own_d_method_2_100 : decode method_2_code 100 = .ok (.invokestatic 13, 3) := by decide +kernel
theorem own_d_method_2_103 : decode method_2_code 103 = .ok (.iload 4, 2) := by decide +kernel
theorem own_d_method_2_105 : decode method_2_code 105 = .ok (.invokestatic 7, 3) := by decide +kernel
theorem own_d_method_2_108 : decode method_2_code 108 = .ok (.invokestatic 13, 3) := by decide +kernel
theorem own_d_method_2_111 : decode method_2_code 111 = .ok (.istore 7, 2) := by decide +kernel
theorem own_d_method_2_113 : decode method_2_code 113 = .ok (.aload_n 0, 1) := by decide +kernel
theorem own_d_method_2_114 : decode method_2_code 114 = .ok (.iconst 0, 1) := by decide +kernel
theorem own_d_method_2_115 : decode method_2_code 115 = .ok (.iaload, 1) := by decide +kernel
theorem own_d_method_2_116 : decode method_2_code 116 = .ok (.iload 5, 2) := by decide +kernel
theorem own_d_method_2_118 : decode method_2_code 118 = .ok (.if_icmp .ne 23, 3) := by decide +kernel
theorem own_d_method_2_121 : decode method_2_code 121 = .ok (.aload_n 0, 1) := by decide +kernel
theorem own_d_method_2_122 : decode method_2_code 122 = .ok (.iconst 1, 1) := by decide +kernel
theorem own_d_method_2_123 : decode method_2_code 123 = .ok (.iaload, 1) := by decide +kernel
theorem own_d_method_2_124 : decode method_2_code 124 = .ok (.iload 7, 2) := by decide +kernel
theorem own_d_method_2_126 : decode method_2_code 126 = .ok (.if_icmp .ne 15, 3) := by decide +kernel
theorem own_d_method_2_129 : decode method_2_code 129 = .ok (.aload_n 0, 1) := by decide +kernel
theorem own_d_method_2_130 : decode method_2_code 130 = .ok (.iconst 2, 1) := by decide +kernel
theorem own_d_method_2_131 : decode method_2_code 131 = .ok (.iaload, 1) := by decide +kernel
theorem own_d_method_2_132 : decode method_2_code 132 = .ok (.iload 6, 2) := by decide +kernel
theorem own_d_method_2_134 : decode method_2_code 134 = .ok (.if_icmp .ne 7, 3) := by decide +kernel
theorem own_d_method_2_137 : decode method_2_code 137 = .ok (.iconst 1, 1) := by decide +kernel
theorem own_d_method_2_138 : decode method_2_code 138 = .ok (.goto 4, 3) := by decide +kernel
theorem own_d_method_2_142 : decode method_2_code 142 = .ok (.ireturn, 1) := by decide +kernel
theorem own_d_prog_47_1_0 : decode prog_47_method_1_code 0 = .ok (.aload_n 0, 1) := by decide +kernel
theorem own_d_prog_47_1_1 : decode prog_47_method_1_code 1 = .ok (.invokespecial 3, 3) := by decide +kernel
theorem own_d_prog_47_1_4 : decode prog_47_method_1_code 4 = .ok (.aload_n 2, 1) := by decide +kernel
theorem own_d_prog_47_1_5 : decode prog_47_method_1_code 5 = .ok (.ifnull 26, 3) := by decide +kernel
theorem own_d_prog_47_1_8 : decode prog_47_method_1_code 8 = .ok (.aload_n 2, 1) := by decide +kernel
theorem own_d_prog_47_1_9 : decode prog_47_method_1_code 9 = .ok (.arraylength, 1) := by decide +kernel
theorem own_d_prog_47_1_10 : decode prog_47_method_1_code 10 = .ok (.sipush 10000, 3) := by decide +kernel
theorem own_d_prog_47_1_13 : decode prog_47_method_1_code 13 = .ok (.if_icmp .le 18, 3) := by decide +kernel
theorem own_d_prog_47_1_31 : decode prog_47_method_1_code 31 = .ok (.aload_n 0, 1) := by decide +kernel
theorem own_d_prog_47_1_32 : decode prog_47_method_1_code 32 = .ok (.aload_n 1, 1) := by decide +kernel
theorem own_d_prog_47_1_33 : decode prog_47_method_1_code 33 = .ok (.putfield 20, 3) := by decide +kernel
theorem own_d_prog_47_1_36 : decode prog_47_method_1_code 36 = .ok (.aload_n 0, 1) := by decide +kernel
theorem own_d_prog_47_1_37 : decode prog_47_method_1_code 37 = .ok (.aload_n 2, 1) := by decide +kernel
theorem own_d_prog_47_1_38 : decode prog_47_method_1_code 38 = .ok (.ifnull 13, 3) := by decide +kernel
theorem own_d_prog_47_1_41 : decode prog_47_method_1_code 41 = .ok (.aload_n 2, 1) := by decide +kernel
theorem own_d_prog_47_1_42 : decode prog_47_method_1_code 42 = .ok (.invokevirtual 24, 3) := by decide +kernel
theorem own_d_prog_47_1_45 : decode prog_47_method_1_code 45 = .ok (.checkcast 25, 3) := by decide +kernel
theorem own_d_prog_47_1_48 : decode prog_47_method_1_code 48 = .ok (.goto 4, 3) := by decide +kernel
theorem own_d_prog_47_1_51 : decode prog_47_method_1_code 51 = .ok (.aconst_null, 1) := by decide +kernel
theorem own_d_prog_47_1_52 : decode prog_47_method_1_code 52 = .ok (.putfield 30, 3) := by decide +kernel
theorem own_d_prog_47_1_55 : decode prog_47_method_1_code 55 = .ok (.aload_n 0, 1) := by decide +kernel
theorem own_d_prog_47_1_56 : decode prog_47_method_1_code 56 = .ok (.getfield 30, 3) := by decide +kernel
theorem own_d_prog_47_1_59 : decode prog_47_method_1_code 59 = .ok (.ifnull 10, 3) := by decide +kernel
theorem own_d_prog_47_1_62 : decode prog_47_method_1_code 62 = .ok (.aload_n 0, 1) := by decide +kernel
theorem own_d_prog_47_1_63 : decode prog_47_method_1_code 63 = .ok (.getfield 30, 3) := by decide +kernel
theorem own_d_prog_47_1_66 : decode prog_47_method_1_code 66 = .ok (.invokestatic 33, 3) := by decide +kernel
theorem own_d_prog_47_1_69 : decode prog_47_method_1_code 69 = .ok (.return_, 1) := by decide +kernel
theorem own_d_prog_47_3_0 : decode prog_47_method_3_code 0 = .ok (.aload_n 0, 1) := by decide +kernel
theorem own_d_prog_47_3_1 : decode prog_47_method_3_code 1 = .ok (.getfield 30, 3) := by decide +kernel
theorem own_d_prog_47_3_4 : decode prog_47_method_3_code 4 = .ok (.ifnull 16, 3) := by decide +kernel
theorem own_d_prog_47_3_7 : decode prog_47_method_3_code 7 = .ok (.aload_n 0, 1) := by decide +kernel
theorem own_d_prog_47_3_8 : decode prog_47_method_3_code 8 = .ok (.getfield 30, 3) := by decide +kernel
theorem own_d_prog_47_3_11 : decode prog_47_method_3_code 11 = .ok (.invokevirtual 24, 3) := by decide +kernel
theorem own_d_prog_47_3_14 : decode prog_47_method_3_code 14 = .ok (.checkcast 25, 3) := by decide +kernel
theorem own_d_prog_47_3_17 : decode prog_47_method_3_code 17 = .ok (.goto 4, 3) := by decide +kernel
theorem own_d_prog_47_3_20 : decode prog_47_method_3_code 20 = .ok (.aconst_null, 1) := by decide +kernel
theorem own_d_prog_47_3_21 : decode prog_47_method_3_code 21 = .ok (.areturn, 1) := by decide +kernel
theorem own_d_prog_49_1_0 : decode prog_49_method_1_code 0 = .ok (.aload_n 0, 1) := by decide +kernel
theorem own_d_prog_49_1_1 : decode prog_49_method_1_code 1 = .ok (.invokespecial 1, 3) := by decide +kernel
theorem own_d_prog_49_1_4 : decode prog_49_method_1_code 4 = .ok (.aload_n 0, 1) := by decide +kernel
theorem own_d_prog_49_1_5 : decode prog_49_method_1_code 5 = .ok (.lload_n 1, 1) := by decide +kernel
theorem own_d_prog_49_1_6 : decode prog_49_method_1_code 6 = .ok (.putfield 7, 3) := by decide +kernel
theorem own_d_prog_49_1_9 : decode prog_49_method_1_code 9 = .ok (.aload_n 0, 1) := by decide +kernel
theorem own_d_prog_49_1_10 : decode prog_49_method_1_code 10 = .ok (.lload_n 3, 1) := by decide +kernel
theorem own_d_prog_49_1_11 : decode prog_49_method_1_code 11 = .ok (.putfield 13, 3) := by decide +kernel
theorem own_d_prog_49_1_14 : decode prog_49_method_1_code 14 = .ok (.return_, 1) := by decide +kernel
theorem own_pd0 : parseMethodDescriptor "([III)V" = some ⟨[(.array .int), .int, .int], none⟩ := by decide +kernel
theorem own_pd1 : parseMethodDescriptor "(Ljava/util/DualPivotQuicksort$Sorter;[IIII)V" = some ⟨[(.object "java/util/DualPivotQuicksort$Sorter"), (.array .int), .int, .int, .int], none⟩ := by decide +kernel
theorem own_pd2 : parseMethodDescriptor "([IIII)V" = some ⟨[(.array .int), .int, .int, .int], none⟩ := by decide +kernel
theorem own_pd3 : parseMethodDescriptor "([I)V" = some ⟨[(.array .int)], none⟩ := by decide +kernel
theorem own_pd4 : parseMethodDescriptor "(II)I" = some ⟨[.int, .int], some .int⟩ := by decide +kernel
theorem own_pd5 : parseMethodDescriptor "(JJ)V" = some ⟨[.long, .long], none⟩ := by decide +kernel
theorem own_pd6 : parseMethodDescriptor "(Lcom/example/nocord/nocord/model/Timestamp;[I)V" = some ⟨[(.object "com/example/nocord/nocord/model/Timestamp"), (.array .int)], none⟩ := by decide +kernel
theorem own_pd7 : parseMethodDescriptor "()[I" = some ⟨[], some (.array .int)⟩ := by decide +kernel
theorem own_pd8 : parseMethodDescriptor "([IIIII)Z" = some ⟨[(.array .int), .int, .int, .int, .int], some .boolean⟩ := by decide +kernel
theorem own_pn0 : plainName "com/example/nocord/nocord/model/Timestamp" = true := by first | (simp [plainName, overriddenIn]; done) | decide +kernel
theorem own_pn1 : plainName "java/util/DualPivotQuicksort" = true := by first | (simp [plainName, overriddenIn]; done) | decide +kernel
theorem own_pn2 : plainName "java/util/Arrays" = true := by first | (simp [plainName, overriddenIn]; done) | decide +kernel
theorem own_pn3 : plainName "com/example/nocord/nocord/model/Snapshot" = true := by first | (simp [plainName, overriddenIn]; done) | decide +kernel
theorem own_pn4 : plainName "com/example/nocord/nocord/model/SnapshotInstallingHashesPinLaw" = true := by first | (simp [plainName, overriddenIn]; done) | decide +kernel
def own_min (a b : Int32) : Int32 := if b < a then b else a
def own_max (a b : Int32) : Int32 := if a < b then b else a
theorem own_and3 (k : Int32) : (k &&& 3) = 0 ∨ (k &&& 3) = 1 ∨ (k &&& 3) = 2 ∨ (k &&& 3) = 3 := by
  have e : (k &&& 3).toInt = k.toInt % 4 := c_mask k 3 2 (by decide) (by decide)
  simp only [← Int32.toInt_inj, Int32.reduceToInt]; omega
theorem own_minT (a b : Int32) : (own_min a b).toInt = if b.toInt < a.toInt then b.toInt else a.toInt := by
  unfold own_min; simp only [Int32.lt_iff_toInt_lt]; split <;> rfl
theorem own_maxT (a b : Int32) : (own_max a b).toInt = if a.toInt < b.toInt then b.toInt else a.toInt := by
  unfold own_max; simp only [Int32.lt_iff_toInt_lt]; split <;> rfl
theorem own_s2_01 (x0 x1 : Int32) (h0 : ¬ x1 < x0) : (own_min x0 x1) = x0 ∧ (own_max x0 x1) = x1 := by
  simp only [← Int32.toInt_inj, own_minT, own_maxT, Int32.lt_iff_toInt_lt] at *
  refine ⟨?_, ?_⟩ <;> (repeat' split) <;> omega
theorem own_s2_10 (x0 x1 : Int32) (h0 : ¬ x0 < x1) : (own_min x0 x1) = x1 ∧ (own_max x0 x1) = x0 := by
  simp only [← Int32.toInt_inj, own_minT, own_maxT, Int32.lt_iff_toInt_lt] at *
  refine ⟨?_, ?_⟩ <;> (repeat' split) <;> omega
theorem own_s3_012 (x0 x1 x2 : Int32) (h0 : ¬ x1 < x0) (h1 : ¬ x2 < x1) : (own_min (own_min x0 x1) x2) = x0 ∧ (own_max (own_min x0 x1) (own_min (own_max x0 x1) x2)) = x1 ∧ (own_max (own_max x0 x1) x2) = x2 := by
  simp only [← Int32.toInt_inj, own_minT, own_maxT, Int32.lt_iff_toInt_lt] at *
  refine ⟨?_, ?_, ?_⟩ <;> (repeat' split) <;> omega
theorem own_s3_021 (x0 x1 x2 : Int32) (h0 : ¬ x2 < x0) (h1 : ¬ x1 < x2) : (own_min (own_min x0 x1) x2) = x0 ∧ (own_max (own_min x0 x1) (own_min (own_max x0 x1) x2)) = x2 ∧ (own_max (own_max x0 x1) x2) = x1 := by
  simp only [← Int32.toInt_inj, own_minT, own_maxT, Int32.lt_iff_toInt_lt] at *
  refine ⟨?_, ?_, ?_⟩ <;> (repeat' split) <;> omega
theorem own_s3_102 (x0 x1 x2 : Int32) (h0 : ¬ x0 < x1) (h1 : ¬ x2 < x0) : (own_min (own_min x0 x1) x2) = x1 ∧ (own_max (own_min x0 x1) (own_min (own_max x0 x1) x2)) = x0 ∧ (own_max (own_max x0 x1) x2) = x2 := by
  simp only [← Int32.toInt_inj, own_minT, own_maxT, Int32.lt_iff_toInt_lt] at *
  refine ⟨?_, ?_, ?_⟩ <;> (repeat' split) <;> omega
theorem own_s3_120 (x0 x1 x2 : Int32) (h0 : ¬ x2 < x1) (h1 : ¬ x0 < x2) : (own_min (own_min x0 x1) x2) = x1 ∧ (own_max (own_min x0 x1) (own_min (own_max x0 x1) x2)) = x2 ∧ (own_max (own_max x0 x1) x2) = x0 := by
  simp only [← Int32.toInt_inj, own_minT, own_maxT, Int32.lt_iff_toInt_lt] at *
  refine ⟨?_, ?_, ?_⟩ <;> (repeat' split) <;> omega
theorem own_s3_201 (x0 x1 x2 : Int32) (h0 : ¬ x0 < x2) (h1 : ¬ x1 < x0) : (own_min (own_min x0 x1) x2) = x2 ∧ (own_max (own_min x0 x1) (own_min (own_max x0 x1) x2)) = x0 ∧ (own_max (own_max x0 x1) x2) = x1 := by
  simp only [← Int32.toInt_inj, own_minT, own_maxT, Int32.lt_iff_toInt_lt] at *
  refine ⟨?_, ?_, ?_⟩ <;> (repeat' split) <;> omega
theorem own_s3_210 (x0 x1 x2 : Int32) (h0 : ¬ x1 < x2) (h1 : ¬ x0 < x1) : (own_min (own_min x0 x1) x2) = x2 ∧ (own_max (own_min x0 x1) (own_min (own_max x0 x1) x2)) = x1 ∧ (own_max (own_max x0 x1) x2) = x0 := by
  simp only [← Int32.toInt_inj, own_minT, own_maxT, Int32.lt_iff_toInt_lt] at *
  refine ⟨?_, ?_, ?_⟩ <;> (repeat' split) <;> omega

def own_Q_own_rmin (Z : State) (p0 : Int32) (p1 : Int32) (h0 : Heap) (n0 : Nat) : Option Value → Heap → List Loc → Prop := fun v h L => v = some (.int (own_min p0 p1)) ∧ Fr n0 L ∧ h = h0
theorem own_ef_own_rmin (m : MethodId) (x0 : Int32) (x1 : Int32) : entryFrame m #[(.int x0), (.int x1)] 2 = mkF m 0 #[.val (.int x0), .val (.int x1)] [] := by first | (simp [entryFrame, mkF, argsToLocals, Value.category]; done) | rfl
set_option maxRecDepth 65536 in
set_option maxHeartbeats 40000000 in
theorem own_rmin (l : Launch) (Z : State) (a0 : Array Value) (hw : ∀ d ∈ tables_1, d.before a0 Z = true) (ws : List Jvm.Cond) (p0 : Int32) (p1 : Int32) (h0 : Heap) (n0 : Nat) :
    MetFree l (⟨"java/lang/Math", "min", "(II)I"⟩ : MethodName) (head1 (Jvm.Cond.code (⟨"java/lang/Math", "min", "(II)I"⟩ : MethodName) jdk_29_method_69_code 2 (some .int) :: ws) ({ frames := 0, cells := 0, slots := 0, locals := 0 } : Room)) (fun a U => a = #[(.int p0), (.int p1)] ∧ Z.Warmed39 U.vm ∧ U.heap = h0) (fun _ _ _ _ _ => True) (fun _ U o U' => ∃ v L, o = .returned v ∧ (own_Q_own_rmin Z p0 p1 h0 n0) v U'.heap L ∧ FrameEnd U o U' L ({ frames := 0, cells := 0, slots := 0, locals := 0 } : Room).cells ({ frames := 0, cells := 0, slots := 0, locals := 0 } : Room).slots) := by
  refine MetFree.of_bodySF (Jvm.Free.JP.mathPlain rfl (by decide +kernel)) hisR ?_
  intro p e s m args below meth c s₁ Bd hml0 hP hK
  obtain ⟨rfl, hZ, hh⟩ := hP
  have hx := Bd.exec
  have hby := Bd.bytes
  have hml : c.maxLocals = 2 := hml0
  have hown : s.vm.findClass "java/lang/Math" = some m.cls := findClass_of_methodNamed Bd.named
  have hnm := (name_of_methodNamed Bd.named Bd.method).1
  have hlk : meth.locks = false := BodyLoose.notSynchronized Bd
  have X0 : Stand p l e ({ frames := 0, cells := 0, slots := 0, locals := 0 } : Room) s m #[(.int p0), (.int p1)] below meth c s₁ [] 0 0 := Stand.of_body Bd
  have e0 : s₁.heap = h0 := by rw [← hh, Bd.state]; rfl
  have N0 := Fr.nil n0
  show own_Ends p e below s (own_Q_own_rmin Z p0 p1 h0 n0) ({ frames := 0, cells := 0, slots := 0, locals := 0 } : Room).cells ({ frames := 0, cells := 0, slots := 0, locals := 0 } : Room).slots _
  refine own_by (V := s₁.setTop (mkF m 0 #[.val (.int p0), .val (.int p1)] [])) (fun t k => castTop (own_ef_own_rmin m p0 p1) k) ?_
  refine own_by (V := s₁.setTop (mkF m 1 #[.val (.int p0), .val (.int p1)] [(.int p0)])) (fun t k => XS.iloadN X0.here hx rfl (hb hby own_d_jdk_29_69_0) rfl  k) ?_
  refine own_by (V := s₁.setTop (mkF m 2 #[.val (.int p0), .val (.int p1)] [(.int p1), (.int p0)])) (fun t k => XS.iloadN X0.here hx rfl (hb hby own_d_jdk_29_69_1) rfl  k) ?_
  by_cases hb2_1 : p1 < p0
  · refine own_by (V := s₁.setTop (mkF m 9 #[.val (.int p0), .val (.int p1)] [])) (fun t k => XS.icmpYes X0.here hx rfl (pc0 := 2) (pc' := 9) rfl (hb hby own_d_jdk_29_69_2) rfl (tlt hb2_1).2.2.1 (by decide) (by decide) k) ?_
    refine own_by (V := s₁.setTop (mkF m 10 #[.val (.int p0), .val (.int p1)] [(.int p1)])) (fun t k => XS.iloadN X0.here hx rfl (hb hby own_d_jdk_29_69_9) rfl  k) ?_
    refine own_retI X0 hx hlk e0 Bd.returns (hb hby own_d_jdk_29_69_10) ?_ (by decide) (by decide)
    exact ⟨congrArg (fun z => some (Value.int z)) (show p1 = (own_min p0 p1) from by exact (if_pos hb2_1).symm), N0, rfl⟩
  · refine own_by (V := s₁.setTop (mkF m 5 #[.val (.int p0), .val (.int p1)] [])) (fun t k => XS.icmpNo X0.here hx rfl (hb hby own_d_jdk_29_69_2) rfl (flt hb2_1).2.2.1 k) ?_
    refine own_by (V := s₁.setTop (mkF m 6 #[.val (.int p0), .val (.int p1)] [(.int p0)])) (fun t k => XS.iloadN X0.here hx rfl (hb hby own_d_jdk_29_69_5) rfl  k) ?_
    refine own_by (V := s₁.setTop (mkF m 10 #[.val (.int p0), .val (.int p1)] [(.int p0)])) (fun t k => XS.goto X0.here hx rfl (pc0 := 6) (pc' := 10) rfl (hb hby own_d_jdk_29_69_6) (by decide) (by decide) k) ?_
    refine own_retI X0 hx hlk e0 Bd.returns (hb hby own_d_jdk_29_69_10) ?_ (by decide) (by decide)
    exact ⟨congrArg (fun z => some (Value.int z)) (show p0 = (own_min p0 p1) from by exact (if_neg hb2_1).symm), N0, rfl⟩
def own_Q_own_rmax (Z : State) (p0 : Int32) (p1 : Int32) (h0 : Heap) (n0 : Nat) : Option Value → Heap → List Loc → Prop := fun v h L => v = some (.int (own_max p0 p1)) ∧ Fr n0 L ∧ h = h0
theorem own_ef_own_rmax (m : MethodId) (x0 : Int32) (x1 : Int32) : entryFrame m #[(.int x0), (.int x1)] 2 = mkF m 0 #[.val (.int x0), .val (.int x1)] [] := by first | (simp [entryFrame, mkF, argsToLocals, Value.category]; done) | rfl
set_option maxRecDepth 65536 in
set_option maxHeartbeats 40000000 in
theorem own_rmax (l : Launch) (Z : State) (a0 : Array Value) (hw : ∀ d ∈ tables_1, d.before a0 Z = true) (ws : List Jvm.Cond) (p0 : Int32) (p1 : Int32) (h0 : Heap) (n0 : Nat) :
    MetFree l (⟨"java/lang/Math", "max", "(II)I"⟩ : MethodName) (head1 (Jvm.Cond.code (⟨"java/lang/Math", "max", "(II)I"⟩ : MethodName) jdk_29_method_65_code 2 (some .int) :: ws) ({ frames := 0, cells := 0, slots := 0, locals := 0 } : Room)) (fun a U => a = #[(.int p0), (.int p1)] ∧ Z.Warmed39 U.vm ∧ U.heap = h0) (fun _ _ _ _ _ => True) (fun _ U o U' => ∃ v L, o = .returned v ∧ (own_Q_own_rmax Z p0 p1 h0 n0) v U'.heap L ∧ FrameEnd U o U' L ({ frames := 0, cells := 0, slots := 0, locals := 0 } : Room).cells ({ frames := 0, cells := 0, slots := 0, locals := 0 } : Room).slots) := by
  refine MetFree.of_bodySF (Jvm.Free.JP.mathPlain rfl (by decide +kernel)) hisR ?_
  intro p e s m args below meth c s₁ Bd hml0 hP hK
  obtain ⟨rfl, hZ, hh⟩ := hP
  have hx := Bd.exec
  have hby := Bd.bytes
  have hml : c.maxLocals = 2 := hml0
  have hown : s.vm.findClass "java/lang/Math" = some m.cls := findClass_of_methodNamed Bd.named
  have hnm := (name_of_methodNamed Bd.named Bd.method).1
  have hlk : meth.locks = false := BodyLoose.notSynchronized Bd
  have X0 : Stand p l e ({ frames := 0, cells := 0, slots := 0, locals := 0 } : Room) s m #[(.int p0), (.int p1)] below meth c s₁ [] 0 0 := Stand.of_body Bd
  have e0 : s₁.heap = h0 := by rw [← hh, Bd.state]; rfl
  have N0 := Fr.nil n0
  show own_Ends p e below s (own_Q_own_rmax Z p0 p1 h0 n0) ({ frames := 0, cells := 0, slots := 0, locals := 0 } : Room).cells ({ frames := 0, cells := 0, slots := 0, locals := 0 } : Room).slots _
  refine own_by (V := s₁.setTop (mkF m 0 #[.val (.int p0), .val (.int p1)] [])) (fun t k => castTop (own_ef_own_rmax m p0 p1) k) ?_
  refine own_by (V := s₁.setTop (mkF m 1 #[.val (.int p0), .val (.int p1)] [(.int p0)])) (fun t k => XS.iloadN X0.here hx rfl (hb hby own_d_jdk_29_65_0) rfl  k) ?_
  refine own_by (V := s₁.setTop (mkF m 2 #[.val (.int p0), .val (.int p1)] [(.int p1), (.int p0)])) (fun t k => XS.iloadN X0.here hx rfl (hb hby own_d_jdk_29_65_1) rfl  k) ?_
  by_cases hb2_1 : p0 < p1
  · refine own_by (V := s₁.setTop (mkF m 9 #[.val (.int p0), .val (.int p1)] [])) (fun t k => XS.icmpYes X0.here hx rfl (pc0 := 2) (pc' := 9) rfl (hb hby own_d_jdk_29_65_2) rfl (tlt hb2_1).1 (by decide) (by decide) k) ?_
    refine own_by (V := s₁.setTop (mkF m 10 #[.val (.int p0), .val (.int p1)] [(.int p1)])) (fun t k => XS.iloadN X0.here hx rfl (hb hby own_d_jdk_29_65_9) rfl  k) ?_
    refine own_retI X0 hx hlk e0 Bd.returns (hb hby own_d_jdk_29_65_10) ?_ (by decide) (by decide)
    exact ⟨congrArg (fun z => some (Value.int z)) (show p1 = (own_max p0 p1) from by exact (if_pos hb2_1).symm), N0, rfl⟩
  · refine own_by (V := s₁.setTop (mkF m 5 #[.val (.int p0), .val (.int p1)] [])) (fun t k => XS.icmpNo X0.here hx rfl (hb hby own_d_jdk_29_65_2) rfl (flt hb2_1).1 k) ?_
    refine own_by (V := s₁.setTop (mkF m 6 #[.val (.int p0), .val (.int p1)] [(.int p0)])) (fun t k => XS.iloadN X0.here hx rfl (hb hby own_d_jdk_29_65_5) rfl  k) ?_
    refine own_by (V := s₁.setTop (mkF m 10 #[.val (.int p0), .val (.int p1)] [(.int p0)])) (fun t k => XS.goto X0.here hx rfl (pc0 := 6) (pc' := 10) rfl (hb hby own_d_jdk_29_65_6) (by decide) (by decide) k) ?_
    refine own_retI X0 hx hlk e0 Bd.returns (hb hby own_d_jdk_29_65_10) ?_ (by decide) (by decide)
    exact ⟨congrArg (fun z => some (Value.int z)) (show p0 = (own_max p0 p1) from by exact (if_neg hb2_1).symm), N0, rfl⟩
def own_Q_own_tinit (Z : State) (o0 : Addr) (q1 : Int64) (q2 : Int64) (h0 : Heap) (n0 : Nat) : Option Value → Heap → List Loc → Prop := fun v h L => v = none ∧ Fr n0 L ∧ Keep h0 h [o0] ∧ Exa Z h o0 "com/example/nocord/nocord/model/Timestamp" ∧ Fld Z h o0 "com/example/nocord/nocord/model/Timestamp" "time" "J" (.long q1) ∧ Fld Z h o0 "com/example/nocord/nocord/model/Timestamp" "client" "J" (.long q2)
theorem own_ef_own_tinit (m : MethodId) (x0 : Addr) (x1 : Int64) (x2 : Int64) : entryFrame m #[(.ref x0), (.long x1), (.long x2)] 5 = mkF m 0 #[.val (.ref x0), .val (.long x1), .second, .val (.long x2), .second] [] := by first | (simp [entryFrame, mkF, argsToLocals, Value.category]; done) | rfl
set_option maxRecDepth 65536 in
set_option maxHeartbeats 40000000 in
theorem own_tinit (l : Launch) (Z : State) (a0 : Array Value) (hw : ∀ d ∈ tables_1, d.before a0 Z = true) (ws : List Jvm.Cond) (o0 : Addr) (q1 : Int64) (q2 : Int64) (h0 : Heap) (n0 : Nat) (Z0 : n0 ≤ h0.size) (g0 : n0 ≤ o0) (E0 : Exa Z h0 o0 "com/example/nocord/nocord/model/Timestamp") (F_time : Fld Z h0 o0 "com/example/nocord/nocord/model/Timestamp" "time" "J" (.long (0 : Int64))) (F_client : Fld Z h0 o0 "com/example/nocord/nocord/model/Timestamp" "client" "J" (.long (0 : Int64))) :
    MetFree l (⟨"com/example/nocord/nocord/model/Timestamp", "<init>", "(JJ)V"⟩ : MethodName) (head1 (Jvm.Cond.code (⟨"com/example/nocord/nocord/model/Timestamp", "<init>", "(JJ)V"⟩ : MethodName) prog_49_method_1_code 5 none :: ws) ({ frames := 1, cells := 0, slots := 0, locals := 12 } : Room)) (fun a U => a = #[(.ref o0), (.long q1), (.long q2)] ∧ Z.Warmed39 U.vm ∧ U.heap = h0) (fun _ _ _ _ _ => True) (fun _ U o U' => ∃ v L, o = .returned v ∧ (own_Q_own_tinit Z o0 q1 q2 h0 n0) v U'.heap L ∧ FrameEnd U o U' L ({ frames := 1, cells := 0, slots := 0, locals := 12 } : Room).cells ({ frames := 1, cells := 0, slots := 0, locals := 12 } : Room).slots) := by
  refine MetFree.of_bodySF (plainFor_of_name own_pn0) hisR ?_
  intro p e s m args below meth c s₁ Bd hml0 hP hK
  obtain ⟨rfl, hZ, hh⟩ := hP
  have hx := Bd.exec
  have hby := Bd.bytes
  have hml : c.maxLocals = 5 := hml0
  have hown : s.vm.findClass "com/example/nocord/nocord/model/Timestamp" = some m.cls := findClass_of_methodNamed Bd.named
  have hnm := (name_of_methodNamed Bd.named Bd.method).1
  have hlk : meth.locks = false := BodyLoose.notSynchronized Bd
  have X0 : Stand p l e ({ frames := 1, cells := 0, slots := 0, locals := 12 } : Room) s m #[(.ref o0), (.long q1), (.long q2)] below meth c s₁ [] 0 0 := Stand.of_body Bd
  have e0 : s₁.heap = h0 := by rw [← hh, Bd.state]; rfl
  have N0 := Fr.nil n0
  show own_Ends p e below s (own_Q_own_tinit Z o0 q1 q2 h0 n0) ({ frames := 1, cells := 0, slots := 0, locals := 12 } : Room).cells ({ frames := 1, cells := 0, slots := 0, locals := 12 } : Room).slots _
  refine own_by (V := s₁.setTop (mkF m 0 #[.val (.ref o0), .val (.long q1), .second, .val (.long q2), .second] [])) (fun t k => castTop (own_ef_own_tinit m o0 q1 q2) k) ?_
  refine own_by (V := s₁.setTop (mkF m 1 #[.val (.ref o0), .val (.long q1), .second, .val (.long q2), .second] [(.ref o0)])) (fun t k => XS.aloadN X0.here hx rfl (hb hby own_d_prog_49_1_0) rfl rfl k) ?_
  obtain ⟨T1, X1, e1, st1⟩ := initO X0 hx hZ hown (hw _ (List.mem_of_getElem? (i := 10) rfl)) (hw _ (List.mem_of_getElem? (i := 11) rfl)) (hw _ (List.mem_of_getElem? (i := 12) rfl)) e0 (g := (mkF m 1 #[.val (.ref o0), .val (.long q1), .second, .val (.long q2), .second] [(.ref o0)])) rfl (by rw [hml]; rfl) rfl (hb hby own_d_prog_49_1_1) (by decide) (W := 0) (by show 2 * 0 + _ ≤ _; exact Nat.le_of_eq rfl) (by decide)
  refine own_by (V := T1.setTop (mkF m 4 #[.val (.ref o0), .val (.long q1), .second, .val (.long q2), .second] [])) st1 ?_
  refine own_by (V := T1.setTop (mkF m 5 #[.val (.ref o0), .val (.long q1), .second, .val (.long q2), .second] [(.ref o0)])) (fun t k => XS.aloadN X1.here hx rfl (hb hby own_d_prog_49_1_4) rfl rfl k) ?_
  refine own_by (V := T1.setTop (mkF m 6 #[.val (.ref o0), .val (.long q1), .second, .val (.long q2), .second] [(.long q1), (.ref o0)])) (fun t k => XS.lloadN X1.here hx rfl (hb hby own_d_prog_49_1_5) rfl  k) ?_
  obtain ⟨T2, h2, X2, e2, W2, st2⟩ := putF X1 hx hZ hown (host := "") (Or.inl (hw _ (List.mem_of_getElem? (i := 13) rfl))) Via.refl e1 F_time E0 (Or.inr ⟨(hw _ (List.mem_of_getElem? (i := 14) rfl)), rfl, hnm⟩) (hw _ (List.mem_of_getElem? (i := 5) rfl)) (ty := .long) (by decide) rfl rfl (g := (mkF m 6 #[.val (.ref o0), .val (.long q1), .second, .val (.long q2), .second] [(.long q1), (.ref o0)])) rfl rfl (hb hby own_d_prog_49_1_6)
  have N2 := Fr.snoc X2 N0 g0
  have K2 := (Keep.refl h0 [o0]).wr W2 (Or.inl (List.mem_singleton.mpr rfl))
  have Zs2 : n0 ≤ h2.size := by rw [W2.size]; exact Z0
  have f3 := E0.wr W2
  have f4 := F_time.same W2
  have f5 := F_client.other W2 (Or.inr (slot_ne (Or.inr (hw _ (List.mem_of_getElem? (i := 16) rfl))) (Or.inr (hw _ (List.mem_of_getElem? (i := 14) rfl))) (by decide) (t := .long) (t' := .long) (by decide) (by decide)))
  refine own_by (V := T2.setTop (mkF m 9 #[.val (.ref o0), .val (.long q1), .second, .val (.long q2), .second] [])) st2 ?_
  refine own_by (V := T2.setTop (mkF m 10 #[.val (.ref o0), .val (.long q1), .second, .val (.long q2), .second] [(.ref o0)])) (fun t k => XS.aloadN X2.here hx rfl (hb hby own_d_prog_49_1_9) rfl rfl k) ?_
  refine own_by (V := T2.setTop (mkF m 11 #[.val (.ref o0), .val (.long q1), .second, .val (.long q2), .second] [(.long q2), (.ref o0)])) (fun t k => XS.lloadN X2.here hx rfl (hb hby own_d_prog_49_1_10) rfl  k) ?_
  obtain ⟨T6, h6, X6, e6, W6, st6⟩ := putF X2 hx hZ hown (host := "") (Or.inl (hw _ (List.mem_of_getElem? (i := 15) rfl))) Via.refl e2 f5 f3 (Or.inr ⟨(hw _ (List.mem_of_getElem? (i := 16) rfl)), rfl, hnm⟩) (hw _ (List.mem_of_getElem? (i := 5) rfl)) (ty := .long) (by decide) rfl rfl (g := (mkF m 11 #[.val (.ref o0), .val (.long q1), .second, .val (.long q2), .second] [(.long q2), (.ref o0)])) rfl rfl (hb hby own_d_prog_49_1_11)
  have N6 := Fr.snoc X6 N2 g0
  have K6 := K2.wr W6 (Or.inl (List.mem_singleton.mpr rfl))
  have Zs6 : n0 ≤ h6.size := by rw [W6.size]; exact Zs2
  have f7 := f3.wr W6
  have f8 := f4.other W6 (Or.inr (slot_ne (Or.inr (hw _ (List.mem_of_getElem? (i := 14) rfl))) (Or.inr (hw _ (List.mem_of_getElem? (i := 16) rfl))) (by decide) (t := .long) (t' := .long) (by decide) (by decide)))
  have f9 := f5.same W6
  refine own_by (V := T6.setTop (mkF m 14 #[.val (.ref o0), .val (.long q1), .second, .val (.long q2), .second] [])) st6 ?_
  refine own_ret0 X6 hx hlk e6 Bd.returns (hb hby own_d_prog_49_1_14) ?_ (by decide) (by decide)
  exact ⟨rfl, N6, K6, f7, f8, f9⟩
def own_Q_own_ins_0 (Z : State) (o0 : Addr) (kb : ClassId) (h0 : Heap) (n0 : Nat) : Option Value → Heap → List Loc → Prop := fun v h L => v = none ∧ Fr n0 L ∧ Keep h0 h [o0] ∧ Arv Z h o0 kb .int (0 : Int32) [] (.int (0 : Int32))
theorem own_ef_own_ins_0 (m : MethodId) (x0 : Addr) : entryFrame m #[(.ref x0), (.int (0 : Int32)), (.int (0 : Int32))] 6 = mkF m 0 #[.val (.ref x0), .val (.int (0 : Int32)), .val (.int (0 : Int32)), .unset, .unset, .unset] [] := by first | (simp [entryFrame, mkF, argsToLocals, Value.category]; done) | rfl
set_option maxRecDepth 65536 in
set_option maxHeartbeats 40000000 in
theorem own_ins_0 (l : Launch) (Z : State) (a0 : Array Value) (hw : ∀ d ∈ tables_1, d.before a0 Z = true) (ws : List Jvm.Cond) (o0 : Addr) (kb : ClassId) (h0 : Heap) (n0 : Nat) (Z0 : n0 ≤ h0.size) (A0 : Arv Z h0 o0 kb .int (0 : Int32) [] (.int (0 : Int32))) (g0 : n0 ≤ o0) :
    MetFree l (⟨"java/util/DualPivotQuicksort", "insertionSort", "([III)V"⟩ : MethodName) (head1 (Jvm.Cond.code (⟨"java/util/DualPivotQuicksort", "insertionSort", "([III)V"⟩ : MethodName) jdk_2529_method_6_code 6 none :: ws) ({ frames := 0, cells := 0, slots := 0, locals := 0 } : Room)) (fun a U => a = #[(.ref o0), (.int (0 : Int32)), (.int (0 : Int32))] ∧ Z.Warmed39 U.vm ∧ U.heap = h0) (fun _ _ _ _ _ => True) (fun _ U o U' => ∃ v L, o = .returned v ∧ (own_Q_own_ins_0 Z o0 kb h0 n0) v U'.heap L ∧ FrameEnd U o U' L ({ frames := 0, cells := 0, slots := 0, locals := 0 } : Room).cells ({ frames := 0, cells := 0, slots := 0, locals := 0 } : Room).slots) := by
  refine MetFree.of_bodySF (plainFor_of_name own_pn1) hisR ?_
  intro p e s m args below meth c s₁ Bd hml0 hP hK
  obtain ⟨rfl, hZ, hh⟩ := hP
  have hx := Bd.exec
  have hby := Bd.bytes
  have hml : c.maxLocals = 6 := hml0
  have hown : s.vm.findClass "java/util/DualPivotQuicksort" = some m.cls := findClass_of_methodNamed Bd.named
  have hnm := (name_of_methodNamed Bd.named Bd.method).1
  have hlk : meth.locks = false := BodyLoose.notSynchronized Bd
  have X0 : Stand p l e ({ frames := 0, cells := 0, slots := 0, locals := 0 } : Room) s m #[(.ref o0), (.int (0 : Int32)), (.int (0 : Int32))] below meth c s₁ [] 0 0 := Stand.of_body Bd
  have e0 : s₁.heap = h0 := by rw [← hh, Bd.state]; rfl
  have N0 := Fr.nil n0
  show own_Ends p e below s (own_Q_own_ins_0 Z o0 kb h0 n0) ({ frames := 0, cells := 0, slots := 0, locals := 0 } : Room).cells ({ frames := 0, cells := 0, slots := 0, locals := 0 } : Room).slots _
  refine own_by (V := s₁.setTop (mkF m 0 #[.val (.ref o0), .val (.int (0 : Int32)), .val (.int (0 : Int32)), .unset, .unset, .unset] [])) (fun t k => castTop (own_ef_own_ins_0 m o0) k) ?_
  refine own_by (V := s₁.setTop (mkF m 1 #[.val (.ref o0), .val (.int (0 : Int32)), .val (.int (0 : Int32)), .unset, .unset, .unset] [(.int (0 : Int32))])) (fun t k => XS.iloadN X0.here hx rfl (hb hby own_d_jdk_2529_6_0) rfl  k) ?_
  refine own_by (V := s₁.setTop (mkF m 3 #[.val (.ref o0), .val (.int (0 : Int32)), .val (.int (0 : Int32)), .unset, .val (.int (0 : Int32)), .unset] [])) (fun t k => XS.istore X0.here hx rfl (hb hby own_d_jdk_2529_6_1) rfl (l' := #[.val (.ref o0), .val (.int (0 : Int32)), .val (.int (0 : Int32)), .unset, .val (.int (0 : Int32)), .unset]) rfl k) ?_
  refine own_by (V := s₁.setTop (mkF m 6 #[.val (.ref o0), .val (.int (0 : Int32)), .val (.int (0 : Int32)), .unset, .val (.int (1 : Int32)), .unset] [])) (fun t k => XS.iinc X0.here hx rfl (hb hby own_d_jdk_2529_6_3) rfl (l' := #[.val (.ref o0), .val (.int (0 : Int32)), .val (.int (0 : Int32)), .unset, .val (.int (1 : Int32)), .unset]) rfl k) ?_
  refine own_by (V := s₁.setTop (mkF m 8 #[.val (.ref o0), .val (.int (0 : Int32)), .val (.int (0 : Int32)), .unset, .val (.int (1 : Int32)), .unset] [(.int (1 : Int32))])) (fun t k => XS.iload X0.here hx rfl (hb hby own_d_jdk_2529_6_6) rfl  k) ?_
  refine own_by (V := s₁.setTop (mkF m 9 #[.val (.ref o0), .val (.int (0 : Int32)), .val (.int (0 : Int32)), .unset, .val (.int (1 : Int32)), .unset] [(.int (0 : Int32)), (.int (1 : Int32))])) (fun t k => XS.iloadN X0.here hx rfl (hb hby own_d_jdk_2529_6_8) rfl  k) ?_
  have hb9_1 : ¬ ((1 : Int32) < (0 : Int32)) := by decide
  refine own_by (V := s₁.setTop (mkF m 67 #[.val (.ref o0), .val (.int (0 : Int32)), .val (.int (0 : Int32)), .unset, .val (.int (1 : Int32)), .unset] [])) (fun t k => XS.icmpYes X0.here hx rfl (pc0 := 9) (pc' := 67) rfl (hb hby own_d_jdk_2529_6_9) rfl (flt hb9_1).2.1 (by decide) (by decide) k) ?_
  refine own_ret0 X0 hx hlk e0 Bd.returns (hb hby own_d_jdk_2529_6_67) ?_ (by decide) (by decide)
  exact ⟨rfl, N0, (Keep.refl h0 [o0]), A0⟩
def own_Q_own_dq2_0 (Z : State) (o1 : Addr) (kb : ClassId) (h0 : Heap) (n0 : Nat) : Option Value → Heap → List Loc → Prop := fun v h L => v = none ∧ Fr n0 L ∧ Keep h0 h [o1] ∧ Arv Z h o1 kb .int (0 : Int32) [] (.int (0 : Int32))
theorem own_ef_own_dq2_0 (m : MethodId) (x1 : Addr) : entryFrame m #[.null, (.ref x1), (.int (0 : Int32)), (.int (0 : Int32)), (.int (0 : Int32))] 21 = mkF m 0 #[.val .null, .val (.ref x1), .val (.int (0 : Int32)), .val (.int (0 : Int32)), .val (.int (0 : Int32)), .unset, .unset, .unset, .unset, .unset, .unset, .unset, .unset, .unset, .unset, .unset, .unset, .unset, .unset, .unset, .unset] [] := by first | (simp [entryFrame, mkF, argsToLocals, Value.category]; done) | rfl
set_option maxRecDepth 65536 in
set_option maxHeartbeats 40000000 in
theorem own_dq2_0 (l : Launch) (Z : State) (a0 : Array Value) (hw : ∀ d ∈ tables_1, d.before a0 Z = true) (ws : List Jvm.Cond) (o1 : Addr) (kb : ClassId) (h0 : Heap) (n0 : Nat) (Z0 : n0 ≤ h0.size) (A0 : Arv Z h0 o1 kb .int (0 : Int32) [] (.int (0 : Int32))) (g0 : n0 ≤ o1) :
    MetFree l (⟨"java/util/DualPivotQuicksort", "sort", "(Ljava/util/DualPivotQuicksort$Sorter;[IIII)V"⟩ : MethodName) (head1 (Jvm.Cond.code (⟨"java/util/DualPivotQuicksort", "sort", "(Ljava/util/DualPivotQuicksort$Sorter;[IIII)V"⟩ : MethodName) jdk_2529_method_4_code 21 none :: ws) ({ frames := 1, cells := 0, slots := 0, locals := 17 } : Room)) (fun a U => a = #[.null, (.ref o1), (.int (0 : Int32)), (.int (0 : Int32)), (.int (0 : Int32))] ∧ Z.Warmed39 U.vm ∧ U.heap = h0) (fun _ _ _ _ _ => True) (fun _ U o U' => ∃ v L, o = .returned v ∧ (own_Q_own_dq2_0 Z o1 kb h0 n0) v U'.heap L ∧ FrameEnd U o U' L ({ frames := 1, cells := 0, slots := 0, locals := 17 } : Room).cells ({ frames := 1, cells := 0, slots := 0, locals := 17 } : Room).slots) := by
  refine MetFree.of_bodySF (plainFor_of_name own_pn1) hisR ?_
  intro p e s m args below meth c s₁ Bd hml0 hP hK
  obtain ⟨rfl, hZ, hh⟩ := hP
  have hx := Bd.exec
  have hby := Bd.bytes
  have hml : c.maxLocals = 21 := hml0
  have hown : s.vm.findClass "java/util/DualPivotQuicksort" = some m.cls := findClass_of_methodNamed Bd.named
  have hnm := (name_of_methodNamed Bd.named Bd.method).1
  have hlk : meth.locks = false := BodyLoose.notSynchronized Bd
  have X0 : Stand p l e ({ frames := 1, cells := 0, slots := 0, locals := 17 } : Room) s m #[.null, (.ref o1), (.int (0 : Int32)), (.int (0 : Int32)), (.int (0 : Int32))] below meth c s₁ [] 0 0 := Stand.of_body Bd
  have e0 : s₁.heap = h0 := by rw [← hh, Bd.state]; rfl
  have N0 := Fr.nil n0
  show own_Ends p e below s (own_Q_own_dq2_0 Z o1 kb h0 n0) ({ frames := 1, cells := 0, slots := 0, locals := 17 } : Room).cells ({ frames := 1, cells := 0, slots := 0, locals := 17 } : Room).slots _
  refine own_by (V := s₁.setTop (mkF m 0 #[.val .null, .val (.ref o1), .val (.int (0 : Int32)), .val (.int (0 : Int32)), .val (.int (0 : Int32)), .unset, .unset, .unset, .unset, .unset, .unset, .unset, .unset, .unset, .unset, .unset, .unset, .unset, .unset, .unset, .unset] [])) (fun t k => castTop (own_ef_own_dq2_0 m o1) k) ?_
  refine own_by (V := s₁.setTop (mkF m 2 #[.val .null, .val (.ref o1), .val (.int (0 : Int32)), .val (.int (0 : Int32)), .val (.int (0 : Int32)), .unset, .unset, .unset, .unset, .unset, .unset, .unset, .unset, .unset, .unset, .unset, .unset, .unset, .unset, .unset, .unset] [(.int (0 : Int32))])) (fun t k => XS.iload X0.here hx rfl (hb hby own_d_jdk_2529_4_0) rfl  k) ?_
  refine own_by (V := s₁.setTop (mkF m 3 #[.val .null, .val (.ref o1), .val (.int (0 : Int32)), .val (.int (0 : Int32)), .val (.int (0 : Int32)), .unset, .unset, .unset, .unset, .unset, .unset, .unset, .unset, .unset, .unset, .unset, .unset, .unset, .unset, .unset, .unset] [(.int (1 : Int32)), (.int (0 : Int32))])) (fun t k => XS.iconst X0.here hx rfl (hb hby own_d_jdk_2529_4_2) k) ?_
  refine own_by (V := s₁.setTop (mkF m 4 #[.val .null, .val (.ref o1), .val (.int (0 : Int32)), .val (.int (0 : Int32)), .val (.int (0 : Int32)), .unset, .unset, .unset, .unset, .unset, .unset, .unset, .unset, .unset, .unset, .unset, .unset, .unset, .unset, .unset, .unset] [(.int (-1 : Int32))])) (fun t k => XS.isub X0.here hx rfl (hb hby own_d_jdk_2529_4_3) rfl k) ?_
  refine own_by (V := s₁.setTop (mkF m 6 #[.val .null, .val (.ref o1), .val (.int (0 : Int32)), .val (.int (0 : Int32)), .val (.int (0 : Int32)), .val (.int (-1 : Int32)), .unset, .unset, .unset, .unset, .unset, .unset, .unset, .unset, .unset, .unset, .unset, .unset, .unset, .unset, .unset] [])) (fun t k => XS.istore X0.here hx rfl (hb hby own_d_jdk_2529_4_4) rfl (l' := #[.val .null, .val (.ref o1), .val (.int (0 : Int32)), .val (.int (0 : Int32)), .val (.int (0 : Int32)), .val (.int (-1 : Int32)), .unset, .unset, .unset, .unset, .unset, .unset, .unset, .unset, .unset, .unset, .unset, .unset, .unset, .unset, .unset]) rfl k) ?_
  refine own_by (V := s₁.setTop (mkF m 8 #[.val .null, .val (.ref o1), .val (.int (0 : Int32)), .val (.int (0 : Int32)), .val (.int (0 : Int32)), .val (.int (-1 : Int32)), .unset, .unset, .unset, .unset, .unset, .unset, .unset, .unset, .unset, .unset, .unset, .unset, .unset, .unset, .unset] [(.int (0 : Int32))])) (fun t k => XS.iload X0.here hx rfl (hb hby own_d_jdk_2529_4_6) rfl  k) ?_
  refine own_by (V := s₁.setTop (mkF m 9 #[.val .null, .val (.ref o1), .val (.int (0 : Int32)), .val (.int (0 : Int32)), .val (.int (0 : Int32)), .val (.int (-1 : Int32)), .unset, .unset, .unset, .unset, .unset, .unset, .unset, .unset, .unset, .unset, .unset, .unset, .unset, .unset, .unset] [(.int (0 : Int32)), (.int (0 : Int32))])) (fun t k => XS.iloadN X0.here hx rfl (hb hby own_d_jdk_2529_4_8) rfl  k) ?_
  refine own_by (V := s₁.setTop (mkF m 10 #[.val .null, .val (.ref o1), .val (.int (0 : Int32)), .val (.int (0 : Int32)), .val (.int (0 : Int32)), .val (.int (-1 : Int32)), .unset, .unset, .unset, .unset, .unset, .unset, .unset, .unset, .unset, .unset, .unset, .unset, .unset, .unset, .unset] [(.int (0 : Int32))])) (fun t k => XS.isub X0.here hx rfl (hb hby own_d_jdk_2529_4_9) rfl k) ?_
  refine own_by (V := s₁.setTop (mkF m 12 #[.val .null, .val (.ref o1), .val (.int (0 : Int32)), .val (.int (0 : Int32)), .val (.int (0 : Int32)), .val (.int (-1 : Int32)), .val (.int (0 : Int32)), .unset, .unset, .unset, .unset, .unset, .unset, .unset, .unset, .unset, .unset, .unset, .unset, .unset, .unset] [])) (fun t k => XS.istore X0.here hx rfl (hb hby own_d_jdk_2529_4_10) rfl (l' := #[.val .null, .val (.ref o1), .val (.int (0 : Int32)), .val (.int (0 : Int32)), .val (.int (0 : Int32)), .val (.int (-1 : Int32)), .val (.int (0 : Int32)), .unset, .unset, .unset, .unset, .unset, .unset, .unset, .unset, .unset, .unset, .unset, .unset, .unset, .unset]) rfl k) ?_
  refine own_by (V := s₁.setTop (mkF m 14 #[.val .null, .val (.ref o1), .val (.int (0 : Int32)), .val (.int (0 : Int32)), .val (.int (0 : Int32)), .val (.int (-1 : Int32)), .val (.int (0 : Int32)), .unset, .unset, .unset, .unset, .unset, .unset, .unset, .unset, .unset, .unset, .unset, .unset, .unset, .unset] [(.int (0 : Int32))])) (fun t k => XS.iload X0.here hx rfl (hb hby own_d_jdk_2529_4_12) rfl  k) ?_
  refine own_by (V := s₁.setTop (mkF m 16 #[.val .null, .val (.ref o1), .val (.int (0 : Int32)), .val (.int (0 : Int32)), .val (.int (0 : Int32)), .val (.int (-1 : Int32)), .val (.int (0 : Int32)), .unset, .unset, .unset, .unset, .unset, .unset, .unset, .unset, .unset, .unset, .unset, .unset, .unset, .unset] [(.int (65 : Int32)), (.int (0 : Int32))])) (fun t k => XS.bipush X0.here hx rfl (hb hby own_d_jdk_2529_4_14) k) ?_
  refine own_by (V := s₁.setTop (mkF m 17 #[.val .null, .val (.ref o1), .val (.int (0 : Int32)), .val (.int (0 : Int32)), .val (.int (0 : Int32)), .val (.int (-1 : Int32)), .val (.int (0 : Int32)), .unset, .unset, .unset, .unset, .unset, .unset, .unset, .unset, .unset, .unset, .unset, .unset, .unset, .unset] [(.int (0 : Int32)), (.int (65 : Int32)), (.int (0 : Int32))])) (fun t k => XS.iloadN X0.here hx rfl (hb hby own_d_jdk_2529_4_16) rfl  k) ?_
  refine own_by (V := s₁.setTop (mkF m 18 #[.val .null, .val (.ref o1), .val (.int (0 : Int32)), .val (.int (0 : Int32)), .val (.int (0 : Int32)), .val (.int (-1 : Int32)), .val (.int (0 : Int32)), .unset, .unset, .unset, .unset, .unset, .unset, .unset, .unset, .unset, .unset, .unset, .unset, .unset, .unset] [(.int (65 : Int32)), (.int (0 : Int32))])) (fun t k => XS.iadd X0.here hx rfl (hb hby own_d_jdk_2529_4_17) rfl k) ?_
  have hb18_1 : ((0 : Int32) < (65 : Int32)) := by decide
  refine own_by (V := s₁.setTop (mkF m 21 #[.val .null, .val (.ref o1), .val (.int (0 : Int32)), .val (.int (0 : Int32)), .val (.int (0 : Int32)), .val (.int (-1 : Int32)), .val (.int (0 : Int32)), .unset, .unset, .unset, .unset, .unset, .unset, .unset, .unset, .unset, .unset, .unset, .unset, .unset, .unset] [])) (fun t k => XS.icmpNo X0.here hx rfl (hb hby own_d_jdk_2529_4_18) rfl (tlt hb18_1).2.1 k) ?_
  refine own_by (V := s₁.setTop (mkF m 22 #[.val .null, .val (.ref o1), .val (.int (0 : Int32)), .val (.int (0 : Int32)), .val (.int (0 : Int32)), .val (.int (-1 : Int32)), .val (.int (0 : Int32)), .unset, .unset, .unset, .unset, .unset, .unset, .unset, .unset, .unset, .unset, .unset, .unset, .unset, .unset] [(.int (0 : Int32))])) (fun t k => XS.iloadN X0.here hx rfl (hb hby own_d_jdk_2529_4_21) rfl  k) ?_
  refine own_by (V := s₁.setTop (mkF m 23 #[.val .null, .val (.ref o1), .val (.int (0 : Int32)), .val (.int (0 : Int32)), .val (.int (0 : Int32)), .val (.int (-1 : Int32)), .val (.int (0 : Int32)), .unset, .unset, .unset, .unset, .unset, .unset, .unset, .unset, .unset, .unset, .unset, .unset, .unset, .unset] [(.int (1 : Int32)), (.int (0 : Int32))])) (fun t k => XS.iconst X0.here hx rfl (hb hby own_d_jdk_2529_4_22) k) ?_
  refine own_by (V := s₁.setTop (mkF m 24 #[.val .null, .val (.ref o1), .val (.int (0 : Int32)), .val (.int (0 : Int32)), .val (.int (0 : Int32)), .val (.int (-1 : Int32)), .val (.int (0 : Int32)), .unset, .unset, .unset, .unset, .unset, .unset, .unset, .unset, .unset, .unset, .unset, .unset, .unset, .unset] [(.int (0 : Int32))])) (fun t k => XS.iand X0.here hx rfl (hb hby own_d_jdk_2529_4_23) rfl k) ?_
  have hb24_2 : ¬ ((0 : Int32) < (0 : Int32)) := by decide
  refine own_by (V := s₁.setTop (mkF m 46 #[.val .null, .val (.ref o1), .val (.int (0 : Int32)), .val (.int (0 : Int32)), .val (.int (0 : Int32)), .val (.int (-1 : Int32)), .val (.int (0 : Int32)), .unset, .unset, .unset, .unset, .unset, .unset, .unset, .unset, .unset, .unset, .unset, .unset, .unset, .unset] [])) (fun t k => XS.ifYes X0.here hx rfl (pc0 := 24) (pc' := 46) rfl (hb hby own_d_jdk_2529_4_24) rfl ((if0 _ _).trans (flt hb24_2).2.2.2) (by decide) (by decide) k) ?_
  refine own_by (V := s₁.setTop (mkF m 48 #[.val .null, .val (.ref o1), .val (.int (0 : Int32)), .val (.int (0 : Int32)), .val (.int (0 : Int32)), .val (.int (-1 : Int32)), .val (.int (0 : Int32)), .unset, .unset, .unset, .unset, .unset, .unset, .unset, .unset, .unset, .unset, .unset, .unset, .unset, .unset] [(.int (0 : Int32))])) (fun t k => XS.iload X0.here hx rfl (hb hby own_d_jdk_2529_4_46) rfl  k) ?_
  refine own_by (V := s₁.setTop (mkF m 50 #[.val .null, .val (.ref o1), .val (.int (0 : Int32)), .val (.int (0 : Int32)), .val (.int (0 : Int32)), .val (.int (-1 : Int32)), .val (.int (0 : Int32)), .unset, .unset, .unset, .unset, .unset, .unset, .unset, .unset, .unset, .unset, .unset, .unset, .unset, .unset] [(.int (44 : Int32)), (.int (0 : Int32))])) (fun t k => XS.bipush X0.here hx rfl (hb hby own_d_jdk_2529_4_48) k) ?_
  have hb50_3 : ((0 : Int32) < (44 : Int32)) := by decide
  refine own_by (V := s₁.setTop (mkF m 53 #[.val .null, .val (.ref o1), .val (.int (0 : Int32)), .val (.int (0 : Int32)), .val (.int (0 : Int32)), .val (.int (-1 : Int32)), .val (.int (0 : Int32)), .unset, .unset, .unset, .unset, .unset, .unset, .unset, .unset, .unset, .unset, .unset, .unset, .unset, .unset] [])) (fun t k => XS.icmpNo X0.here hx rfl (hb hby own_d_jdk_2529_4_50) rfl (tlt hb50_3).2.1 k) ?_
  refine own_by (V := s₁.setTop (mkF m 54 #[.val .null, .val (.ref o1), .val (.int (0 : Int32)), .val (.int (0 : Int32)), .val (.int (0 : Int32)), .val (.int (-1 : Int32)), .val (.int (0 : Int32)), .unset, .unset, .unset, .unset, .unset, .unset, .unset, .unset, .unset, .unset, .unset, .unset, .unset, .unset] [(.ref o1)])) (fun t k => XS.aloadN X0.here hx rfl (hb hby own_d_jdk_2529_4_53) rfl rfl k) ?_
  refine own_by (V := s₁.setTop (mkF m 55 #[.val .null, .val (.ref o1), .val (.int (0 : Int32)), .val (.int (0 : Int32)), .val (.int (0 : Int32)), .val (.int (-1 : Int32)), .val (.int (0 : Int32)), .unset, .unset, .unset, .unset, .unset, .unset, .unset, .unset, .unset, .unset, .unset, .unset, .unset, .unset] [(.int (0 : Int32)), (.ref o1)])) (fun t k => XS.iloadN X0.here hx rfl (hb hby own_d_jdk_2529_4_54) rfl  k) ?_
  refine own_by (V := s₁.setTop (mkF m 57 #[.val .null, .val (.ref o1), .val (.int (0 : Int32)), .val (.int (0 : Int32)), .val (.int (0 : Int32)), .val (.int (-1 : Int32)), .val (.int (0 : Int32)), .unset, .unset, .unset, .unset, .unset, .unset, .unset, .unset, .unset, .unset, .unset, .unset, .unset, .unset] [(.int (0 : Int32)), (.int (0 : Int32)), (.ref o1)])) (fun t k => XS.iload X0.here hx rfl (hb hby own_d_jdk_2529_4_55) rfl  k) ?_
  obtain ⟨_, _, ⟨T4, Lq4, kq4, nq4⟩, -, X4, ⟨Lc4, hQ4, lq4, yq4, zq4⟩, st4⟩ := Jvm.LawKit.callS X0 hx (y := (⟨"java/util/DualPivotQuicksort", "insertionSort", "([III)V"⟩ : MethodName)) hown (mvT hZ (hw _ (List.mem_of_getElem? (i := 45) rfl))) (mvT hZ (hw _ (List.mem_of_getElem? (i := 46) rfl))) (mvT hZ (hw _ (List.mem_of_getElem? (i := 40) rfl))) (mvT hZ (hw _ (List.mem_of_getElem? (i := 47) rfl))) (by decide) (backOf (W := 0) (own_ins_0 l Z a0 hw [] o1 kb h0 n0 Z0 A0 g0) hZ (hw _ (List.mem_of_getElem? (i := 47) rfl)) (hw _ (List.mem_of_getElem? (i := 40) rfl)) (by decide) (by decide)) (g := (mkF m 57 #[.val .null, .val (.ref o1), .val (.int (0 : Int32)), .val (.int (0 : Int32)), .val (.int (0 : Int32)), .val (.int (-1 : Int32)), .val (.int (0 : Int32)), .unset, .unset, .unset, .unset, .unset, .unset, .unset, .unset, .unset, .unset, .unset, .unset, .unset, .unset] [(.int (0 : Int32)), (.int (0 : Int32)), (.ref o1)])) rfl (by rw [hml]; rfl) (argsL := [(.ref o1), (.int (0 : Int32)), (.int (0 : Int32))]) (rest := []) (lenOf own_pd0 rfl) rfl (by show 2 * 0 + _ ≤ _; exact Nat.le_of_eq rfl) (hb hby own_d_jdk_2529_4_57) (fun _ _ => ⟨rfl, e0, (by decide : 0 + 0 ≤ _), (by decide : 0 + 0 ≤ _)⟩)
  dsimp only [Pt.U, Pt.locs, Pt.cells, Pt.slots] at X4 lq4 yq4 zq4 st4 hQ4
  subst lq4 yq4 zq4
  obtain ⟨rfl, N4q, Kc4, g4_0⟩ := hQ4
  have N4 := Fr.app N0 N4q
  have K4 := (Keep.refl h0 [o1]).trans Kc4 (allS (Or.inl (List.mem_of_getElem? (i := 0) rfl)) all0)
  have Zs4 : n0 ≤ T4.heap.size := Nat.le_trans Z0 Kc4.1
  refine own_by (V := T4.setTop (mkF m 60 #[.val .null, .val (.ref o1), .val (.int (0 : Int32)), .val (.int (0 : Int32)), .val (.int (0 : Int32)), .val (.int (-1 : Int32)), .val (.int (0 : Int32)), .unset, .unset, .unset, .unset, .unset, .unset, .unset, .unset, .unset, .unset, .unset, .unset, .unset, .unset] [])) st4 ?_
  refine own_ret0 X4 hx hlk rfl Bd.returns (hb hby own_d_jdk_2529_4_60) ?_ (by decide) (by decide)
  exact ⟨rfl, N4, K4, g4_0⟩
def own_Q_own_dq1_0 (Z : State) (o0 : Addr) (kb : ClassId) (h0 : Heap) (n0 : Nat) : Option Value → Heap → List Loc → Prop := fun v h L => v = none ∧ Fr n0 L ∧ Keep h0 h [o0] ∧ Arv Z h o0 kb .int (0 : Int32) [] (.int (0 : Int32))
theorem own_ef_own_dq1_0 (m : MethodId) (x0 : Addr) : entryFrame m #[(.ref x0), (.int (0 : Int32)), (.int (0 : Int32)), (.int (0 : Int32))] 7 = mkF m 0 #[.val (.ref x0), .val (.int (0 : Int32)), .val (.int (0 : Int32)), .val (.int (0 : Int32)), .unset, .unset, .unset] [] := by first | (simp [entryFrame, mkF, argsToLocals, Value.category]; done) | rfl
set_option maxRecDepth 65536 in
set_option maxHeartbeats 40000000 in
theorem own_dq1_0 (l : Launch) (Z : State) (a0 : Array Value) (hw : ∀ d ∈ tables_1, d.before a0 Z = true) (ws : List Jvm.Cond) (o0 : Addr) (kb : ClassId) (h0 : Heap) (n0 : Nat) (Z0 : n0 ≤ h0.size) (A0 : Arv Z h0 o0 kb .int (0 : Int32) [] (.int (0 : Int32))) (g0 : n0 ≤ o0) :
    MetFree l (⟨"java/util/DualPivotQuicksort", "sort", "([IIII)V"⟩ : MethodName) (head1 (Jvm.Cond.code (⟨"java/util/DualPivotQuicksort", "sort", "([IIII)V"⟩ : MethodName) jdk_2529_method_3_code 7 none :: ws) ({ frames := 2, cells := 0, slots := 0, locals := 49 } : Room)) (fun a U => a = #[(.ref o0), (.int (0 : Int32)), (.int (0 : Int32)), (.int (0 : Int32))] ∧ Z.Warmed39 U.vm ∧ U.heap = h0) (fun _ _ _ _ _ => True) (fun _ U o U' => ∃ v L, o = .returned v ∧ (own_Q_own_dq1_0 Z o0 kb h0 n0) v U'.heap L ∧ FrameEnd U o U' L ({ frames := 2, cells := 0, slots := 0, locals := 49 } : Room).cells ({ frames := 2, cells := 0, slots := 0, locals := 49 } : Room).slots) := by
  refine MetFree.of_bodySF (plainFor_of_name own_pn1) hisR ?_
  intro p e s m args below meth c s₁ Bd hml0 hP hK
  obtain ⟨rfl, hZ, hh⟩ := hP
  have hx := Bd.exec
  have hby := Bd.bytes
  have hml : c.maxLocals = 7 := hml0
  have hown : s.vm.findClass "java/util/DualPivotQuicksort" = some m.cls := findClass_of_methodNamed Bd.named
  have hnm := (name_of_methodNamed Bd.named Bd.method).1
  have hlk : meth.locks = false := BodyLoose.notSynchronized Bd
  have X0 : Stand p l e ({ frames := 2, cells := 0, slots := 0, locals := 49 } : Room) s m #[(.ref o0), (.int (0 : Int32)), (.int (0 : Int32)), (.int (0 : Int32))] below meth c s₁ [] 0 0 := Stand.of_body Bd
  have e0 : s₁.heap = h0 := by rw [← hh, Bd.state]; rfl
  have N0 := Fr.nil n0
  show own_Ends p e below s (own_Q_own_dq1_0 Z o0 kb h0 n0) ({ frames := 2, cells := 0, slots := 0, locals := 49 } : Room).cells ({ frames := 2, cells := 0, slots := 0, locals := 49 } : Room).slots _
  refine own_by (V := s₁.setTop (mkF m 0 #[.val (.ref o0), .val (.int (0 : Int32)), .val (.int (0 : Int32)), .val (.int (0 : Int32)), .unset, .unset, .unset] [])) (fun t k => castTop (own_ef_own_dq1_0 m o0) k) ?_
  refine own_by (V := s₁.setTop (mkF m 1 #[.val (.ref o0), .val (.int (0 : Int32)), .val (.int (0 : Int32)), .val (.int (0 : Int32)), .unset, .unset, .unset] [(.int (0 : Int32))])) (fun t k => XS.iloadN X0.here hx rfl (hb hby own_d_jdk_2529_3_0) rfl  k) ?_
  refine own_by (V := s₁.setTop (mkF m 2 #[.val (.ref o0), .val (.int (0 : Int32)), .val (.int (0 : Int32)), .val (.int (0 : Int32)), .unset, .unset, .unset] [(.int (0 : Int32)), (.int (0 : Int32))])) (fun t k => XS.iloadN X0.here hx rfl (hb hby own_d_jdk_2529_3_1) rfl  k) ?_
  refine own_by (V := s₁.setTop (mkF m 3 #[.val (.ref o0), .val (.int (0 : Int32)), .val (.int (0 : Int32)), .val (.int (0 : Int32)), .unset, .unset, .unset] [(.int (0 : Int32))])) (fun t k => XS.isub X0.here hx rfl (hb hby own_d_jdk_2529_3_2) rfl k) ?_
  refine own_by (V := s₁.setTop (mkF m 5 #[.val (.ref o0), .val (.int (0 : Int32)), .val (.int (0 : Int32)), .val (.int (0 : Int32)), .val (.int (0 : Int32)), .unset, .unset] [])) (fun t k => XS.istore X0.here hx rfl (hb hby own_d_jdk_2529_3_3) rfl (l' := #[.val (.ref o0), .val (.int (0 : Int32)), .val (.int (0 : Int32)), .val (.int (0 : Int32)), .val (.int (0 : Int32)), .unset, .unset]) rfl k) ?_
  refine own_by (V := s₁.setTop (mkF m 6 #[.val (.ref o0), .val (.int (0 : Int32)), .val (.int (0 : Int32)), .val (.int (0 : Int32)), .val (.int (0 : Int32)), .unset, .unset] [(.int (0 : Int32))])) (fun t k => XS.iloadN X0.here hx rfl (hb hby own_d_jdk_2529_3_5) rfl  k) ?_
  refine own_by (V := s₁.setTop (mkF m 7 #[.val (.ref o0), .val (.int (0 : Int32)), .val (.int (0 : Int32)), .val (.int (0 : Int32)), .val (.int (0 : Int32)), .unset, .unset] [(.int (1 : Int32)), (.int (0 : Int32))])) (fun t k => XS.iconst X0.here hx rfl (hb hby own_d_jdk_2529_3_6) k) ?_
  have hb7_1 : ¬ ((1 : Int32) < (0 : Int32)) := by decide
  refine own_by (V := s₁.setTop (mkF m 68 #[.val (.ref o0), .val (.int (0 : Int32)), .val (.int (0 : Int32)), .val (.int (0 : Int32)), .val (.int (0 : Int32)), .unset, .unset] [])) (fun t k => XS.icmpYes X0.here hx rfl (pc0 := 7) (pc' := 68) rfl (hb hby own_d_jdk_2529_3_7) rfl (flt hb7_1).2.2.2 (by decide) (by decide) k) ?_
  refine own_by (V := s₁.setTop (mkF m 69 #[.val (.ref o0), .val (.int (0 : Int32)), .val (.int (0 : Int32)), .val (.int (0 : Int32)), .val (.int (0 : Int32)), .unset, .unset] [.null])) (fun t k => XS.aconstNull X0.here hx rfl (hb hby own_d_jdk_2529_3_68) k) ?_
  refine own_by (V := s₁.setTop (mkF m 70 #[.val (.ref o0), .val (.int (0 : Int32)), .val (.int (0 : Int32)), .val (.int (0 : Int32)), .val (.int (0 : Int32)), .unset, .unset] [(.ref o0), .null])) (fun t k => XS.aloadN X0.here hx rfl (hb hby own_d_jdk_2529_3_69) rfl rfl k) ?_
  refine own_by (V := s₁.setTop (mkF m 71 #[.val (.ref o0), .val (.int (0 : Int32)), .val (.int (0 : Int32)), .val (.int (0 : Int32)), .val (.int (0 : Int32)), .unset, .unset] [(.int (0 : Int32)), (.ref o0), .null])) (fun t k => XS.iconst X0.here hx rfl (hb hby own_d_jdk_2529_3_70) k) ?_
  refine own_by (V := s₁.setTop (mkF m 72 #[.val (.ref o0), .val (.int (0 : Int32)), .val (.int (0 : Int32)), .val (.int (0 : Int32)), .val (.int (0 : Int32)), .unset, .unset] [(.int (0 : Int32)), (.int (0 : Int32)), (.ref o0), .null])) (fun t k => XS.iloadN X0.here hx rfl (hb hby own_d_jdk_2529_3_71) rfl  k) ?_
  refine own_by (V := s₁.setTop (mkF m 73 #[.val (.ref o0), .val (.int (0 : Int32)), .val (.int (0 : Int32)), .val (.int (0 : Int32)), .val (.int (0 : Int32)), .unset, .unset] [(.int (0 : Int32)), (.int (0 : Int32)), (.int (0 : Int32)), (.ref o0), .null])) (fun t k => XS.iloadN X0.here hx rfl (hb hby own_d_jdk_2529_3_72) rfl  k) ?_
  obtain ⟨_, _, ⟨T2, Lq2, kq2, nq2⟩, -, X2, ⟨Lc2, hQ2, lq2, yq2, zq2⟩, st2⟩ := Jvm.LawKit.callS X0 hx (y := (⟨"java/util/DualPivotQuicksort", "sort", "(Ljava/util/DualPivotQuicksort$Sorter;[IIII)V"⟩ : MethodName)) hown (mvT hZ (hw _ (List.mem_of_getElem? (i := 42) rfl))) (mvT hZ (hw _ (List.mem_of_getElem? (i := 43) rfl))) (mvT hZ (hw _ (List.mem_of_getElem? (i := 40) rfl))) (mvT hZ (hw _ (List.mem_of_getElem? (i := 44) rfl))) (by decide) (backOf (W := 0) (own_dq2_0 l Z a0 hw [] o0 kb h0 n0 Z0 A0 g0) hZ (hw _ (List.mem_of_getElem? (i := 44) rfl)) (hw _ (List.mem_of_getElem? (i := 40) rfl)) (by decide) (by decide)) (g := (mkF m 73 #[.val (.ref o0), .val (.int (0 : Int32)), .val (.int (0 : Int32)), .val (.int (0 : Int32)), .val (.int (0 : Int32)), .unset, .unset] [(.int (0 : Int32)), (.int (0 : Int32)), (.int (0 : Int32)), (.ref o0), .null])) rfl (by rw [hml]; rfl) (argsL := [.null, (.ref o0), (.int (0 : Int32)), (.int (0 : Int32)), (.int (0 : Int32))]) (rest := []) (lenOf own_pd1 rfl) rfl (by show 2 * 0 + _ ≤ _; exact Nat.le_of_eq rfl) (hb hby own_d_jdk_2529_3_73) (fun _ _ => ⟨rfl, e0, (by decide : 0 + 0 ≤ _), (by decide : 0 + 0 ≤ _)⟩)
  dsimp only [Pt.U, Pt.locs, Pt.cells, Pt.slots] at X2 lq2 yq2 zq2 st2 hQ2
  subst lq2 yq2 zq2
  obtain ⟨rfl, N2q, Kc2, g2_0⟩ := hQ2
  have N2 := Fr.app N0 N2q
  have K2 := (Keep.refl h0 [o0]).trans Kc2 (allS (Or.inl (List.mem_of_getElem? (i := 0) rfl)) all0)
  have Zs2 : n0 ≤ T2.heap.size := Nat.le_trans Z0 Kc2.1
  refine own_by (V := T2.setTop (mkF m 76 #[.val (.ref o0), .val (.int (0 : Int32)), .val (.int (0 : Int32)), .val (.int (0 : Int32)), .val (.int (0 : Int32)), .unset, .unset] [])) st2 ?_
  refine own_ret0 X2 hx hlk rfl Bd.returns (hb hby own_d_jdk_2529_3_76) ?_ (by decide) (by decide)
  exact ⟨rfl, N2, K2, g2_0⟩
def own_Q_own_sort_0 (Z : State) (o0 : Addr) (kb : ClassId) (h0 : Heap) (n0 : Nat) : Option Value → Heap → List Loc → Prop := fun v h L => v = none ∧ Fr n0 L ∧ Keep h0 h [o0] ∧ Arv Z h o0 kb .int (0 : Int32) [] (.int (0 : Int32))
theorem own_ef_own_sort_0 (m : MethodId) (x0 : Addr) : entryFrame m #[(.ref x0)] 1 = mkF m 0 #[.val (.ref x0)] [] := by first | (simp [entryFrame, mkF, argsToLocals, Value.category]; done) | rfl
set_option maxRecDepth 65536 in
set_option maxHeartbeats 40000000 in
theorem own_sort_0 (l : Launch) (Z : State) (a0 : Array Value) (hw : ∀ d ∈ tables_1, d.before a0 Z = true) (ws : List Jvm.Cond) (o0 : Addr) (kb : ClassId) (h0 : Heap) (n0 : Nat) (Z0 : n0 ≤ h0.size) (A0 : Arv Z h0 o0 kb .int (0 : Int32) [] (.int (0 : Int32))) (g0 : n0 ≤ o0) :
    MetFree l (⟨"java/util/Arrays", "sort", "([I)V"⟩ : MethodName) (head1 (Jvm.Cond.code (⟨"java/util/Arrays", "sort", "([I)V"⟩ : MethodName) jdk_65_method_2_code 1 none :: ws) ({ frames := 3, cells := 0, slots := 0, locals := 67 } : Room)) (fun a U => a = #[(.ref o0)] ∧ Z.Warmed39 U.vm ∧ U.heap = h0) (fun _ _ _ _ _ => True) (fun _ U o U' => ∃ v L, o = .returned v ∧ (own_Q_own_sort_0 Z o0 kb h0 n0) v U'.heap L ∧ FrameEnd U o U' L ({ frames := 3, cells := 0, slots := 0, locals := 67 } : Room).cells ({ frames := 3, cells := 0, slots := 0, locals := 67 } : Room).slots) := by
  refine MetFree.of_bodySF (plainFor_of_name own_pn2) hisR ?_
  intro p e s m args below meth c s₁ Bd hml0 hP hK
  obtain ⟨rfl, hZ, hh⟩ := hP
  have hx := Bd.exec
  have hby := Bd.bytes
  have hml : c.maxLocals = 1 := hml0
  have hown : s.vm.findClass "java/util/Arrays" = some m.cls := findClass_of_methodNamed Bd.named
  have hnm := (name_of_methodNamed Bd.named Bd.method).1
  have hlk : meth.locks = false := BodyLoose.notSynchronized Bd
  have X0 : Stand p l e ({ frames := 3, cells := 0, slots := 0, locals := 67 } : Room) s m #[(.ref o0)] below meth c s₁ [] 0 0 := Stand.of_body Bd
  have e0 : s₁.heap = h0 := by rw [← hh, Bd.state]; rfl
  have N0 := Fr.nil n0
  show own_Ends p e below s (own_Q_own_sort_0 Z o0 kb h0 n0) ({ frames := 3, cells := 0, slots := 0, locals := 67 } : Room).cells ({ frames := 3, cells := 0, slots := 0, locals := 67 } : Room).slots _
  refine own_by (V := s₁.setTop (mkF m 0 #[.val (.ref o0)] [])) (fun t k => castTop (own_ef_own_sort_0 m o0) k) ?_
  refine own_by (V := s₁.setTop (mkF m 1 #[.val (.ref o0)] [(.ref o0)])) (fun t k => XS.aloadN X0.here hx rfl (hb hby own_d_jdk_65_2_0) rfl rfl k) ?_
  refine own_by (V := s₁.setTop (mkF m 2 #[.val (.ref o0)] [(.int (0 : Int32)), (.ref o0)])) (fun t k => XS.iconst X0.here hx rfl (hb hby own_d_jdk_65_2_1) k) ?_
  refine own_by (V := s₁.setTop (mkF m 3 #[.val (.ref o0)] [(.int (0 : Int32)), (.int (0 : Int32)), (.ref o0)])) (fun t k => XS.iconst X0.here hx rfl (hb hby own_d_jdk_65_2_2) k) ?_
  refine own_by (V := s₁.setTop (mkF m 4 #[.val (.ref o0)] [(.ref o0), (.int (0 : Int32)), (.int (0 : Int32)), (.ref o0)])) (fun t k => XS.aloadN X0.here hx rfl (hb hby own_d_jdk_65_2_3) rfl rfl k) ?_
  obtain ⟨cl1, Ar1, qa1, Sa1, Ma1, Ha1, Ua1⟩ := id A0
  have hl1 := len_of Sa1 Ma1
  refine own_by (V := s₁.setTop (mkF m 5 #[.val (.ref o0)] [(.int (0 : Int32)), (.int (0 : Int32)), (.int (0 : Int32)), (.ref o0)])) (by have q := X0.arraylength hx (cell := cl1) (by rw [e0]; exact Ar1.1) (State.isArrayOf_alike hZ.alike Ar1.2.1) (g := (mkF m 4 #[.val (.ref o0)] [(.ref o0), (.int (0 : Int32)), (.int (0 : Int32)), (.ref o0)])) rfl (rest := [(.int (0 : Int32)), (.int (0 : Int32)), (.ref o0)]) rfl (hb hby own_d_jdk_65_2_4); rw [hl1] at q; exact q) ?_
  obtain ⟨_, _, ⟨T2, Lq2, kq2, nq2⟩, -, X2, ⟨Lc2, hQ2, lq2, yq2, zq2⟩, st2⟩ := Jvm.LawKit.callS X0 hx (y := (⟨"java/util/DualPivotQuicksort", "sort", "([IIII)V"⟩ : MethodName)) hown (mvT hZ (hw _ (List.mem_of_getElem? (i := 38) rfl))) (mvT hZ (hw _ (List.mem_of_getElem? (i := 39) rfl))) (mvT hZ (hw _ (List.mem_of_getElem? (i := 40) rfl))) (mvT hZ (hw _ (List.mem_of_getElem? (i := 41) rfl))) (by decide) (backOf (W := 0) (own_dq1_0 l Z a0 hw [] o0 kb h0 n0 Z0 A0 g0) hZ (hw _ (List.mem_of_getElem? (i := 41) rfl)) (hw _ (List.mem_of_getElem? (i := 40) rfl)) (by decide) (by decide)) (g := (mkF m 5 #[.val (.ref o0)] [(.int (0 : Int32)), (.int (0 : Int32)), (.int (0 : Int32)), (.ref o0)])) rfl (by rw [hml]; rfl) (argsL := [(.ref o0), (.int (0 : Int32)), (.int (0 : Int32)), (.int (0 : Int32))]) (rest := []) (lenOf own_pd2 rfl) rfl (by show 2 * 0 + _ ≤ _; exact Nat.le_of_eq rfl) (hb hby own_d_jdk_65_2_5) (fun _ _ => ⟨rfl, e0, (by decide : 0 + 0 ≤ _), (by decide : 0 + 0 ≤ _)⟩)
  dsimp only [Pt.U, Pt.locs, Pt.cells, Pt.slots] at X2 lq2 yq2 zq2 st2 hQ2
  subst lq2 yq2 zq2
  obtain ⟨rfl, N2q, Kc2, g2_0⟩ := hQ2
  have N2 := Fr.app N0 N2q
  have K2 := (Keep.refl h0 [o0]).trans Kc2 (allS (Or.inl (List.mem_of_getElem? (i := 0) rfl)) all0)
  have Zs2 : n0 ≤ T2.heap.size := Nat.le_trans Z0 Kc2.1
  refine own_by (V := T2.setTop (mkF m 8 #[.val (.ref o0)] [])) st2 ?_
  refine own_ret0 X2 hx hlk rfl Bd.returns (hb hby own_d_jdk_65_2_8) ?_ (by decide) (by decide)
  exact ⟨rfl, N2, K2, g2_0⟩
def own_Q_own_snap_0 (Z : State) (o0 : Addr) (o1 : Addr) (o2 : Addr) (kb : ClassId) (h0 : Heap) (n0 : Nat) : Option Value → Heap → List Loc → Prop := fun v h L => ∃ (b : Addr), v = none ∧ Fr n0 L ∧ Keep h0 h [o0] ∧ h0.size ≤ b ∧ Exa Z h o0 "com/example/nocord/nocord/model/Snapshot" ∧ Fld Z h o0 "com/example/nocord/nocord/model/Snapshot" "timestamp" "Lcom/example/nocord/nocord/model/Timestamp;" (.ref o1) ∧ Fld Z h o0 "com/example/nocord/nocord/model/Snapshot" "installing" "[I" (.ref b) ∧ Arv Z h b kb .int (0 : Int32) [] (.int (0 : Int32)) ∧ Exa Z h b "[I"
theorem own_ef_own_snap_0 (m : MethodId) (x0 : Addr) (x1 : Addr) (x2 : Addr) : entryFrame m #[(.ref x0), (.ref x1), (.ref x2)] 3 = mkF m 0 #[.val (.ref x0), .val (.ref x1), .val (.ref x2)] [] := by first | (simp [entryFrame, mkF, argsToLocals, Value.category]; done) | rfl
set_option maxRecDepth 65536 in
set_option maxHeartbeats 40000000 in
theorem own_snap_0 (l : Launch) (Z : State) (a0 : Array Value) (hw : ∀ d ∈ tables_1, d.before a0 Z = true) (ws : List Jvm.Cond) (o0 : Addr) (o1 : Addr) (o2 : Addr) (kb : ClassId) (h0 : Heap) (n0 : Nat) (Z0 : n0 ≤ h0.size) (g0 : n0 ≤ o0) (E0 : Exa Z h0 o0 "com/example/nocord/nocord/model/Snapshot") (Ft : Fld Z h0 o0 "com/example/nocord/nocord/model/Snapshot" "timestamp" "Lcom/example/nocord/nocord/model/Timestamp;" .null) (Fi : Fld Z h0 o0 "com/example/nocord/nocord/model/Snapshot" "installing" "[I" .null) (A2 : Arv Z h0 o2 kb .int (0 : Int32) [] (.int (0 : Int32))) (E2 : Exa Z h0 o2 "[I") (hne : o2 ≠ o0) :
    MetFree l (⟨"com/example/nocord/nocord/model/Snapshot", "<init>", "(Lcom/example/nocord/nocord/model/Timestamp;[I)V"⟩ : MethodName) (head1 (Jvm.Cond.code (⟨"com/example/nocord/nocord/model/Snapshot", "<init>", "(Lcom/example/nocord/nocord/model/Timestamp;[I)V"⟩ : MethodName) prog_47_method_1_code 3 none :: ws) ({ frames := 4, cells := 1, slots := 0, locals := 79 } : Room)) (fun a U => a = #[(.ref o0), (.ref o1), (.ref o2)] ∧ Z.Warmed39 U.vm ∧ U.heap = h0) (fun _ _ _ _ _ => True) (fun _ U o U' => ∃ v L, o = .returned v ∧ (own_Q_own_snap_0 Z o0 o1 o2 kb h0 n0) v U'.heap L ∧ FrameEnd U o U' L ({ frames := 4, cells := 1, slots := 0, locals := 79 } : Room).cells ({ frames := 4, cells := 1, slots := 0, locals := 79 } : Room).slots) := by
  refine MetFree.of_bodySF (plainFor_of_name own_pn3) hisR ?_
  intro p e s m args below meth c s₁ Bd hml0 hP hK
  obtain ⟨rfl, hZ, hh⟩ := hP
  have hx := Bd.exec
  have hby := Bd.bytes
  have hml : c.maxLocals = 3 := hml0
  have hown : s.vm.findClass "com/example/nocord/nocord/model/Snapshot" = some m.cls := findClass_of_methodNamed Bd.named
  have hnm := (name_of_methodNamed Bd.named Bd.method).1
  have hlk : meth.locks = false := BodyLoose.notSynchronized Bd
  have X0 : Stand p l e ({ frames := 4, cells := 1, slots := 0, locals := 79 } : Room) s m #[(.ref o0), (.ref o1), (.ref o2)] below meth c s₁ [] 0 0 := Stand.of_body Bd
  have e0 : s₁.heap = h0 := by rw [← hh, Bd.state]; rfl
  have N0 := Fr.nil n0
  show own_Ends p e below s (own_Q_own_snap_0 Z o0 o1 o2 kb h0 n0) ({ frames := 4, cells := 1, slots := 0, locals := 79 } : Room).cells ({ frames := 4, cells := 1, slots := 0, locals := 79 } : Room).slots _
  refine own_by (V := s₁.setTop (mkF m 0 #[.val (.ref o0), .val (.ref o1), .val (.ref o2)] [])) (fun t k => castTop (own_ef_own_snap_0 m o0 o1 o2) k) ?_
  refine own_by (V := s₁.setTop (mkF m 1 #[.val (.ref o0), .val (.ref o1), .val (.ref o2)] [(.ref o0)])) (fun t k => XS.aloadN X0.here hx rfl (hb hby own_d_prog_47_1_0) rfl rfl k) ?_
  obtain ⟨T1, X1, e1, st1⟩ := initO X0 hx hZ hown (hw _ (List.mem_of_getElem? (i := 20) rfl)) (hw _ (List.mem_of_getElem? (i := 11) rfl)) (hw _ (List.mem_of_getElem? (i := 12) rfl)) e0 (g := (mkF m 1 #[.val (.ref o0), .val (.ref o1), .val (.ref o2)] [(.ref o0)])) rfl (by rw [hml]; rfl) rfl (hb hby own_d_prog_47_1_1) (by decide) (W := 0) (by show 2 * 0 + _ ≤ _; exact Nat.le_of_eq rfl) (by decide)
  refine own_by (V := T1.setTop (mkF m 4 #[.val (.ref o0), .val (.ref o1), .val (.ref o2)] [])) st1 ?_
  refine own_by (V := T1.setTop (mkF m 5 #[.val (.ref o0), .val (.ref o1), .val (.ref o2)] [(.ref o2)])) (fun t k => XS.aloadN X1.here hx rfl (hb hby own_d_prog_47_1_4) rfl rfl k) ?_
  refine own_by (V := T1.setTop (mkF m 8 #[.val (.ref o0), .val (.ref o1), .val (.ref o2)] [])) (fun t k => XS.ifnullNo X1.here hx rfl (hb hby own_d_prog_47_1_5) rfl k) ?_
  refine own_by (V := T1.setTop (mkF m 9 #[.val (.ref o0), .val (.ref o1), .val (.ref o2)] [(.ref o2)])) (fun t k => XS.aloadN X1.here hx rfl (hb hby own_d_prog_47_1_8) rfl rfl k) ?_
  obtain ⟨cl2, Ar2, qa2, Sa2, Ma2, Ha2, Ua2⟩ := id A2
  have hl2 := len_of Sa2 Ma2
  refine own_by (V := T1.setTop (mkF m 10 #[.val (.ref o0), .val (.ref o1), .val (.ref o2)] [(.int (0 : Int32))])) (by have q := X1.arraylength hx (cell := cl2) (by rw [e1]; exact Ar2.1) (State.isArrayOf_alike hZ.alike Ar2.2.1) (g := (mkF m 9 #[.val (.ref o0), .val (.ref o1), .val (.ref o2)] [(.ref o2)])) rfl (rest := []) rfl (hb hby own_d_prog_47_1_9); rw [hl2] at q; exact q) ?_
  refine own_by (V := T1.setTop (mkF m 13 #[.val (.ref o0), .val (.ref o1), .val (.ref o2)] [(.int (10000 : Int32)), (.int (0 : Int32))])) (fun t k => XS.sipush X1.here hx rfl (hb hby own_d_prog_47_1_10) k) ?_
  have hb13_3 : ¬ ((10000 : Int32) < (0 : Int32)) := by decide
  refine own_by (V := T1.setTop (mkF m 31 #[.val (.ref o0), .val (.ref o1), .val (.ref o2)] [])) (fun t k => XS.icmpYes X1.here hx rfl (pc0 := 13) (pc' := 31) rfl (hb hby own_d_prog_47_1_13) rfl (flt hb13_3).2.2.2 (by decide) (by decide) k) ?_
  refine own_by (V := T1.setTop (mkF m 32 #[.val (.ref o0), .val (.ref o1), .val (.ref o2)] [(.ref o0)])) (fun t k => XS.aloadN X1.here hx rfl (hb hby own_d_prog_47_1_31) rfl rfl k) ?_
  refine own_by (V := T1.setTop (mkF m 33 #[.val (.ref o0), .val (.ref o1), .val (.ref o2)] [(.ref o1), (.ref o0)])) (fun t k => XS.aloadN X1.here hx rfl (hb hby own_d_prog_47_1_32) rfl rfl k) ?_
  obtain ⟨T4, h4, X4, e4, W4, st4⟩ := putF X1 hx hZ hown (host := "") (Or.inl (hw _ (List.mem_of_getElem? (i := 21) rfl))) Via.refl e1 Ft E0 (Or.inr ⟨(hw _ (List.mem_of_getElem? (i := 22) rfl)), rfl, hnm⟩) (hw _ (List.mem_of_getElem? (i := 2) rfl)) (ty := (.object "com/example/nocord/nocord/model/Timestamp")) (by decide) rfl rfl (g := (mkF m 33 #[.val (.ref o0), .val (.ref o1), .val (.ref o2)] [(.ref o1), (.ref o0)])) rfl rfl (hb hby own_d_prog_47_1_33)
  have N4 := Fr.snoc X4 N0 g0
  have K4 := (Keep.refl h0 [o0]).wr W4 (Or.inl (List.mem_of_getElem? (i := 0) rfl))
  have Zs4 : n0 ≤ h4.size := by rw [W4.size]; exact Z0
  have f5 := E0.wr W4
  have f6 := Ft.same W4
  have f7 := Fi.other W4 (Or.inr (slot_ne (Or.inr (hw _ (List.mem_of_getElem? (i := 33) rfl))) (Or.inr (hw _ (List.mem_of_getElem? (i := 22) rfl))) (by decide) (t := (.array .int)) (t' := (.object "com/example/nocord/nocord/model/Timestamp")) (by decide) (by decide)))
  have f8 := A2.other W4 hne
  have f9 := E2.wr W4
  refine own_by (V := T4.setTop (mkF m 36 #[.val (.ref o0), .val (.ref o1), .val (.ref o2)] [])) st4 ?_
  refine own_by (V := T4.setTop (mkF m 37 #[.val (.ref o0), .val (.ref o1), .val (.ref o2)] [(.ref o0)])) (fun t k => XS.aloadN X4.here hx rfl (hb hby own_d_prog_47_1_36) rfl rfl k) ?_
  refine own_by (V := T4.setTop (mkF m 38 #[.val (.ref o0), .val (.ref o1), .val (.ref o2)] [(.ref o2), (.ref o0)])) (fun t k => XS.aloadN X4.here hx rfl (hb hby own_d_prog_47_1_37) rfl rfl k) ?_
  refine own_by (V := T4.setTop (mkF m 41 #[.val (.ref o0), .val (.ref o1), .val (.ref o2)] [(.ref o0)])) (fun t k => XS.ifnullNo X4.here hx rfl (hb hby own_d_prog_47_1_38) rfl k) ?_
  refine own_by (V := T4.setTop (mkF m 42 #[.val (.ref o0), .val (.ref o1), .val (.ref o2)] [(.ref o2), (.ref o0)])) (fun t k => XS.aloadN X4.here hx rfl (hb hby own_d_prog_47_1_41) rfl rfl k) ?_
  obtain ⟨T10, h10, X10, e10, E10, A10, Ex10, st10⟩ := cloneH X4 hx hZ hown (hw _ (List.mem_of_getElem? (i := 23) rfl)) (hw _ (List.mem_of_getElem? (i := 24) rfl)) (hw _ (List.mem_of_getElem? (i := 28) rfl)) (hw _ (List.mem_of_getElem? (i := 26) rfl)) (hw _ (List.mem_of_getElem? (i := 27) rfl)) (hw _ (List.mem_of_getElem? (i := 29) rfl)) e4 (Arv.arh f8) f9 (g := (mkF m 42 #[.val (.ref o0), .val (.ref o1), .val (.ref o2)] [(.ref o2), (.ref o0)])) rfl (by rw [hml]; rfl) rfl (hb hby own_d_prog_47_1_42) (by decide) (W := 1) (by show 2 * 0 + _ ≤ _; exact Nat.le_of_eq rfl) (by decide) (cap := 0) (by decide) (by decide) (by decide)
  obtain ⟨b10, g10⟩ : ∃ z, z = h4.size := ⟨_, rfl⟩
  rw [← g10] at A10 Ex10 st10
  have kb10 : h0.size ≤ b10 := Nat.le_trans K4.1 (Nat.le_of_eq g10.symm)
  have ne11 : o0 ≠ b10 := Nat.ne_of_lt (Nat.lt_of_lt_of_le f5.lt (Nat.le_of_eq g10.symm))
  have ne12 : o2 ≠ b10 := Nat.ne_of_lt (Nat.lt_of_lt_of_le f8.lt (Nat.le_of_eq g10.symm))
  have f14 := f5.ext E10
  have f15 := f6.ext E10
  have f16 := f7.ext E10
  have f17 := f8.ext E10
  have f18 := f9.ext E10
  have K10 := K4.ext E10
  have V10 : Arv Z h10 b10 kb .int (0 : Int32) [] (.int (0 : Int32)) := A10
  have gn10 : n0 ≤ b10 := Nat.le_trans Zs4 (Nat.le_of_eq g10.symm)
  have Zs10 : n0 ≤ h10.size := Nat.le_trans Zs4 E10.1
  refine own_by (V := T10.setTop (mkF m 45 #[.val (.ref o0), .val (.ref o1), .val (.ref o2)] [(.ref b10), (.ref o0)])) st10 ?_
  obtain ⟨T24, X24, e24, st24⟩ := castY X10 hx hZ hown (hw _ (List.mem_of_getElem? (i := 30) rfl)) e10 (Ins.self Ex10) (g := (mkF m 45 #[.val (.ref o0), .val (.ref o1), .val (.ref o2)] [(.ref b10), (.ref o0)])) rfl rfl (hb hby own_d_prog_47_1_45)
  refine own_by (V := T24.setTop (mkF m 48 #[.val (.ref o0), .val (.ref o1), .val (.ref o2)] [(.ref b10), (.ref o0)])) st24 ?_
  refine own_by (V := T24.setTop (mkF m 52 #[.val (.ref o0), .val (.ref o1), .val (.ref o2)] [(.ref b10), (.ref o0)])) (fun t k => XS.goto X24.here hx rfl (pc0 := 48) (pc' := 52) rfl (hb hby own_d_prog_47_1_48) (by decide) (by decide) k) ?_
  obtain ⟨T25, h25, X25, e25, W25, st25⟩ := putF X24 hx hZ hown (host := "") (Or.inl (hw _ (List.mem_of_getElem? (i := 32) rfl))) Via.refl e24 f16 f14 (Or.inr ⟨(hw _ (List.mem_of_getElem? (i := 33) rfl)), rfl, hnm⟩) (hw _ (List.mem_of_getElem? (i := 2) rfl)) (ty := (.array .int)) (by decide) rfl rfl (g := (mkF m 52 #[.val (.ref o0), .val (.ref o1), .val (.ref o2)] [(.ref b10), (.ref o0)])) rfl rfl (hb hby own_d_prog_47_1_52)
  have N25 := Fr.snoc X25 N4 g0
  have K25 := K10.wr W25 (Or.inl (List.mem_of_getElem? (i := 0) rfl))
  have Zs25 : n0 ≤ h25.size := by rw [W25.size]; exact Zs10
  have f26 := f14.wr W25
  have f27 := f15.other W25 (Or.inr (slot_ne (Or.inr (hw _ (List.mem_of_getElem? (i := 22) rfl))) (Or.inr (hw _ (List.mem_of_getElem? (i := 33) rfl))) (by decide) (t := (.object "com/example/nocord/nocord/model/Timestamp")) (t' := (.array .int)) (by decide) (by decide)))
  have f28 := f16.same W25
  have f29 := f17.other W25 hne
  have f30 := f18.wr W25
  have f31 := V10.other W25 (Ne.symm ne11)
  have f32 := Ex10.wr W25
  refine own_by (V := T25.setTop (mkF m 55 #[.val (.ref o0), .val (.ref o1), .val (.ref o2)] [])) st25 ?_
  refine own_by (V := T25.setTop (mkF m 56 #[.val (.ref o0), .val (.ref o1), .val (.ref o2)] [(.ref o0)])) (fun t k => XS.aloadN X25.here hx rfl (hb hby own_d_prog_47_1_55) rfl rfl k) ?_
  obtain ⟨T33, X33, e33, st33⟩ := getF X25 hx hZ hown (host := "") (Or.inl (hw _ (List.mem_of_getElem? (i := 32) rfl))) Via.refl e25 f28 (g := (mkF m 56 #[.val (.ref o0), .val (.ref o1), .val (.ref o2)] [(.ref o0)])) rfl rfl (hb hby own_d_prog_47_1_56)
  refine own_by (V := T33.setTop (mkF m 59 #[.val (.ref o0), .val (.ref o1), .val (.ref o2)] [(.ref b10)])) st33 ?_
  refine own_by (V := T33.setTop (mkF m 62 #[.val (.ref o0), .val (.ref o1), .val (.ref o2)] [])) (fun t k => XS.ifnullNo X33.here hx rfl (hb hby own_d_prog_47_1_59) rfl k) ?_
  refine own_by (V := T33.setTop (mkF m 63 #[.val (.ref o0), .val (.ref o1), .val (.ref o2)] [(.ref o0)])) (fun t k => XS.aloadN X33.here hx rfl (hb hby own_d_prog_47_1_62) rfl rfl k) ?_
  obtain ⟨T34, X34, e34, st34⟩ := getF X33 hx hZ hown (host := "") (Or.inl (hw _ (List.mem_of_getElem? (i := 32) rfl))) Via.refl e33 f28 (g := (mkF m 63 #[.val (.ref o0), .val (.ref o1), .val (.ref o2)] [(.ref o0)])) rfl rfl (hb hby own_d_prog_47_1_63)
  refine own_by (V := T34.setTop (mkF m 66 #[.val (.ref o0), .val (.ref o1), .val (.ref o2)] [(.ref b10)])) st34 ?_
  obtain ⟨_, _, ⟨T35, Lq35, kq35, nq35⟩, -, X35, ⟨Lc35, hQ35, lq35, yq35, zq35⟩, st35⟩ := Jvm.LawKit.callS X34 hx (y := (⟨"java/util/Arrays", "sort", "([I)V"⟩ : MethodName)) hown (mvT hZ (hw _ (List.mem_of_getElem? (i := 34) rfl))) (mvT hZ (hw _ (List.mem_of_getElem? (i := 35) rfl))) (mvT hZ (hw _ (List.mem_of_getElem? (i := 36) rfl))) (mvT hZ (hw _ (List.mem_of_getElem? (i := 37) rfl))) (by decide) (backOf (W := 0) (own_sort_0 l Z a0 hw [] b10 kb h25 n0 Zs25 f31 gn10) hZ (hw _ (List.mem_of_getElem? (i := 37) rfl)) (hw _ (List.mem_of_getElem? (i := 36) rfl)) (by decide) (by decide)) (g := (mkF m 66 #[.val (.ref o0), .val (.ref o1), .val (.ref o2)] [(.ref b10)])) rfl (by rw [hml]; rfl) (argsL := [(.ref b10)]) (rest := []) (lenOf own_pd3 rfl) rfl (by show 2 * 0 + _ ≤ _; exact Nat.le_of_eq rfl) (hb hby own_d_prog_47_1_66) (fun _ _ => ⟨rfl, e34, (by decide : 1 + 0 ≤ _), (by decide : 0 + 0 ≤ _)⟩)
  dsimp only [Pt.U, Pt.locs, Pt.cells, Pt.slots] at X35 lq35 yq35 zq35 st35 hQ35
  subst lq35 yq35 zq35
  obtain ⟨rfl, N35q, Kc35, g35_0⟩ := hQ35
  have N35 := Fr.app N25 N35q
  have f36 := f26.keep Kc35
  have f37 := f27.keep Kc35 (ninS ne11 nin0)
  have f38 := f28.keep Kc35 (ninS ne11 nin0)
  have f39 := f29.keep Kc35 (ninS ne12 nin0)
  have f40 := f30.keep Kc35
  have f42 := f32.keep Kc35
  have K35 := K25.trans Kc35 (allS (Or.inr kb10) all0)
  have Zs35 : n0 ≤ T35.heap.size := Nat.le_trans Zs25 Kc35.1
  refine own_by (V := T35.setTop (mkF m 69 #[.val (.ref o0), .val (.ref o1), .val (.ref o2)] [])) st35 ?_
  refine own_ret0 X35 hx hlk rfl Bd.returns (hb hby own_d_prog_47_1_69) ?_ (by decide) (by decide)
  exact ⟨b10, rfl, N35, K35, (kb10), f36, f37, f38, g35_0, f42⟩
def own_Q_own_hash_0 (Z : State) (o0 : Addr) (b : Addr) (kb : ClassId) (h0 : Heap) (n0 : Nat) : Option Value → Heap → List Loc → Prop := fun v h L => ∃ (r : Addr), v = some (.ref r) ∧ Fr n0 L ∧ Keep h0 h [] ∧ h0.size ≤ r ∧ Arv Z h r kb .int (0 : Int32) [] (.int (0 : Int32)) ∧ Exa Z h r "[I"
theorem own_ef_own_hash_0 (m : MethodId) (x0 : Addr) : entryFrame m #[(.ref x0)] 1 = mkF m 0 #[.val (.ref x0)] [] := by first | (simp [entryFrame, mkF, argsToLocals, Value.category]; done) | rfl
set_option maxRecDepth 65536 in
set_option maxHeartbeats 40000000 in
theorem own_hash_0 (l : Launch) (Z : State) (a0 : Array Value) (hw : ∀ d ∈ tables_1, d.before a0 Z = true) (ws : List Jvm.Cond) (o0 : Addr) (b : Addr) (kb : ClassId) (h0 : Heap) (n0 : Nat) (Z0 : n0 ≤ h0.size) (Fi : Fld Z h0 o0 "com/example/nocord/nocord/model/Snapshot" "installing" "[I" (.ref b)) (Ab : Arv Z h0 b kb .int (0 : Int32) [] (.int (0 : Int32))) (Eb : Exa Z h0 b "[I") :
    MetFree l (⟨"com/example/nocord/nocord/model/Snapshot", "installingHashes", "()[I"⟩ : MethodName) (head1 (Jvm.Cond.code (⟨"com/example/nocord/nocord/model/Snapshot", "installingHashes", "()[I"⟩ : MethodName) prog_47_method_3_code 1 (some (.array .int)) :: ws) ({ frames := 1, cells := 1, slots := 0, locals := 14 } : Room)) (fun a U => a = #[(.ref o0)] ∧ Z.Warmed39 U.vm ∧ U.heap = h0) (fun _ _ _ _ _ => True) (fun _ U o U' => ∃ v L, o = .returned v ∧ (own_Q_own_hash_0 Z o0 b kb h0 n0) v U'.heap L ∧ FrameEnd U o U' L ({ frames := 1, cells := 1, slots := 0, locals := 14 } : Room).cells ({ frames := 1, cells := 1, slots := 0, locals := 14 } : Room).slots) := by
  refine MetFree.of_bodySF (plainFor_of_name own_pn3) hisR ?_
  intro p e s m args below meth c s₁ Bd hml0 hP hK
  obtain ⟨rfl, hZ, hh⟩ := hP
  have hx := Bd.exec
  have hby := Bd.bytes
  have hml : c.maxLocals = 1 := hml0
  have hown : s.vm.findClass "com/example/nocord/nocord/model/Snapshot" = some m.cls := findClass_of_methodNamed Bd.named
  have hnm := (name_of_methodNamed Bd.named Bd.method).1
  have hlk : meth.locks = false := BodyLoose.notSynchronized Bd
  have X0 : Stand p l e ({ frames := 1, cells := 1, slots := 0, locals := 14 } : Room) s m #[(.ref o0)] below meth c s₁ [] 0 0 := Stand.of_body Bd
  have e0 : s₁.heap = h0 := by rw [← hh, Bd.state]; rfl
  have N0 := Fr.nil n0
  show own_Ends p e below s (own_Q_own_hash_0 Z o0 b kb h0 n0) ({ frames := 1, cells := 1, slots := 0, locals := 14 } : Room).cells ({ frames := 1, cells := 1, slots := 0, locals := 14 } : Room).slots _
  refine own_by (V := s₁.setTop (mkF m 0 #[.val (.ref o0)] [])) (fun t k => castTop (own_ef_own_hash_0 m o0) k) ?_
  refine own_by (V := s₁.setTop (mkF m 1 #[.val (.ref o0)] [(.ref o0)])) (fun t k => XS.aloadN X0.here hx rfl (hb hby own_d_prog_47_3_0) rfl rfl k) ?_
  obtain ⟨T1, X1, e1, st1⟩ := getF X0 hx hZ hown (host := "") (Or.inl (hw _ (List.mem_of_getElem? (i := 32) rfl))) Via.refl e0 Fi (g := (mkF m 1 #[.val (.ref o0)] [(.ref o0)])) rfl rfl (hb hby own_d_prog_47_3_1)
  refine own_by (V := T1.setTop (mkF m 4 #[.val (.ref o0)] [(.ref b)])) st1 ?_
  refine own_by (V := T1.setTop (mkF m 7 #[.val (.ref o0)] [])) (fun t k => XS.ifnullNo X1.here hx rfl (hb hby own_d_prog_47_3_4) rfl k) ?_
  refine own_by (V := T1.setTop (mkF m 8 #[.val (.ref o0)] [(.ref o0)])) (fun t k => XS.aloadN X1.here hx rfl (hb hby own_d_prog_47_3_7) rfl rfl k) ?_
  obtain ⟨T2, X2, e2, st2⟩ := getF X1 hx hZ hown (host := "") (Or.inl (hw _ (List.mem_of_getElem? (i := 32) rfl))) Via.refl e1 Fi (g := (mkF m 8 #[.val (.ref o0)] [(.ref o0)])) rfl rfl (hb hby own_d_prog_47_3_8)
  refine own_by (V := T2.setTop (mkF m 11 #[.val (.ref o0)] [(.ref b)])) st2 ?_
  obtain ⟨T3, h3, X3, e3, E3, A3, Ex3, st3⟩ := cloneH X2 hx hZ hown (hw _ (List.mem_of_getElem? (i := 23) rfl)) (hw _ (List.mem_of_getElem? (i := 24) rfl)) (hw _ (List.mem_of_getElem? (i := 28) rfl)) (hw _ (List.mem_of_getElem? (i := 26) rfl)) (hw _ (List.mem_of_getElem? (i := 27) rfl)) (hw _ (List.mem_of_getElem? (i := 29) rfl)) e2 (Arv.arh Ab) Eb (g := (mkF m 11 #[.val (.ref o0)] [(.ref b)])) rfl (by rw [hml]; rfl) rfl (hb hby own_d_prog_47_3_11) (by decide) (W := 0) (by show 2 * 0 + _ ≤ _; exact Nat.le_of_eq rfl) (by decide) (cap := 0) (by decide) (by decide) (by decide)
  obtain ⟨b3, g3⟩ : ∃ z, z = h0.size := ⟨_, rfl⟩
  rw [← g3] at A3 Ex3 st3
  have kb3 : h0.size ≤ b3 := Nat.le_trans (Keep.refl h0 []).1 (Nat.le_of_eq g3.symm)
  have ne4 : o0 ≠ b3 := Nat.ne_of_lt (Nat.lt_of_lt_of_le Fi.lt (Nat.le_of_eq g3.symm))
  have ne5 : b ≠ b3 := Nat.ne_of_lt (Nat.lt_of_lt_of_le Ab.lt (Nat.le_of_eq g3.symm))
  have f6 := Fi.ext E3
  have f7 := Ab.ext E3
  have f8 := Eb.ext E3
  have K3 := (Keep.refl h0 []).ext E3
  have V3 : Arv Z h3 b3 kb .int (0 : Int32) [] (.int (0 : Int32)) := A3
  have gn3 : n0 ≤ b3 := Nat.le_trans Z0 (Nat.le_of_eq g3.symm)
  have Zs3 : n0 ≤ h3.size := Nat.le_trans Z0 E3.1
  refine own_by (V := T3.setTop (mkF m 14 #[.val (.ref o0)] [(.ref b3)])) st3 ?_
  obtain ⟨T12, X12, e12, st12⟩ := castY X3 hx hZ hown (hw _ (List.mem_of_getElem? (i := 30) rfl)) e3 (Ins.self Ex3) (g := (mkF m 14 #[.val (.ref o0)] [(.ref b3)])) rfl rfl (hb hby own_d_prog_47_3_14)
  refine own_by (V := T12.setTop (mkF m 17 #[.val (.ref o0)] [(.ref b3)])) st12 ?_
  refine own_by (V := T12.setTop (mkF m 21 #[.val (.ref o0)] [(.ref b3)])) (fun t k => XS.goto X12.here hx rfl (pc0 := 17) (pc' := 21) rfl (hb hby own_d_prog_47_3_17) (by decide) (by decide) k) ?_
  refine own_retA X12 hx hlk e12 (w := (.ref b3)) rfl Bd.returns rfl (hb hby own_d_prog_47_3_21) ?_ (by decide) (by decide)
  exact ⟨b3, rfl, N0, K3, (kb3), V3, Ex3⟩
def own_Q_own_match_0 (Z : State) (o0 : Addr) (p2 : Int32) (p3 : Int32) (p4 : Int32) (kb : ClassId) (h0 : Heap) (n0 : Nat) : Option Value → Heap → List Loc → Prop := fun v h L => v = some (.int (1 : Int32)) ∧ Fr n0 L ∧ h = h0
theorem own_ef_own_match_0 (m : MethodId) (x0 : Addr) (x2 : Int32) (x3 : Int32) (x4 : Int32) : entryFrame m #[(.ref x0), (.int (0 : Int32)), (.int x2), (.int x3), (.int x4)] 8 = mkF m 0 #[.val (.ref x0), .val (.int (0 : Int32)), .val (.int x2), .val (.int x3), .val (.int x4), .unset, .unset, .unset] [] := by first | (simp [entryFrame, mkF, argsToLocals, Value.category]; done) | rfl
set_option maxRecDepth 65536 in
set_option maxHeartbeats 40000000 in
theorem own_match_0 (l : Launch) (Z : State) (a0 : Array Value) (hw : ∀ d ∈ tables_1, d.before a0 Z = true) (ws : List Jvm.Cond) (o0 : Addr) (p2 : Int32) (p3 : Int32) (p4 : Int32) (kb : ClassId) (h0 : Heap) (n0 : Nat) (A0 : Arv Z h0 o0 kb .int (0 : Int32) [] (.int (0 : Int32))) :
    MetFree l (⟨"com/example/nocord/nocord/model/SnapshotInstallingHashesPinLaw", "matches", "([IIIII)Z"⟩ : MethodName) (head1 (Jvm.Cond.code (⟨"com/example/nocord/nocord/model/SnapshotInstallingHashesPinLaw", "matches", "([IIIII)Z"⟩ : MethodName) method_2_code 8 (some .boolean) :: ws) ({ frames := 0, cells := 0, slots := 0, locals := 0 } : Room)) (fun a U => a = #[(.ref o0), (.int (0 : Int32)), (.int p2), (.int p3), (.int p4)] ∧ Z.Warmed39 U.vm ∧ U.heap = h0) (fun _ _ _ _ _ => True) (fun _ U o U' => ∃ v L, o = .returned v ∧ (own_Q_own_match_0 Z o0 p2 p3 p4 kb h0 n0) v U'.heap L ∧ FrameEnd U o U' L ({ frames := 0, cells := 0, slots := 0, locals := 0 } : Room).cells ({ frames := 0, cells := 0, slots := 0, locals := 0 } : Room).slots) := by
  refine MetFree.of_bodySF (plainFor_of_name own_pn4) hisR ?_
  intro p e s m args below meth c s₁ Bd hml0 hP hK
  obtain ⟨rfl, hZ, hh⟩ := hP
  have hx := Bd.exec
  have hby := Bd.bytes
  have hml : c.maxLocals = 8 := hml0
  have hown : s.vm.findClass "com/example/nocord/nocord/model/SnapshotInstallingHashesPinLaw" = some m.cls := findClass_of_methodNamed Bd.named
  have hnm := (name_of_methodNamed Bd.named Bd.method).1
  have hlk : meth.locks = false := BodyLoose.notSynchronized Bd
  have X0 : Stand p l e ({ frames := 0, cells := 0, slots := 0, locals := 0 } : Room) s m #[(.ref o0), (.int (0 : Int32)), (.int p2), (.int p3), (.int p4)] below meth c s₁ [] 0 0 := Stand.of_body Bd
  have e0 : s₁.heap = h0 := by rw [← hh, Bd.state]; rfl
  have N0 := Fr.nil n0
  show own_Ends p e below s (own_Q_own_match_0 Z o0 p2 p3 p4 kb h0 n0) ({ frames := 0, cells := 0, slots := 0, locals := 0 } : Room).cells ({ frames := 0, cells := 0, slots := 0, locals := 0 } : Room).slots _
  refine own_by (V := s₁.setTop (mkF m 0 #[.val (.ref o0), .val (.int (0 : Int32)), .val (.int p2), .val (.int p3), .val (.int p4), .unset, .unset, .unset] [])) (fun t k => castTop (own_ef_own_match_0 m o0 p2 p3 p4) k) ?_
  refine own_by (V := s₁.setTop (mkF m 1 #[.val (.ref o0), .val (.int (0 : Int32)), .val (.int p2), .val (.int p3), .val (.int p4), .unset, .unset, .unset] [(.ref o0)])) (fun t k => XS.aloadN X0.here hx rfl (hb hby own_d_method_2_0) rfl rfl k) ?_
  refine own_by (V := s₁.setTop (mkF m 4 #[.val (.ref o0), .val (.int (0 : Int32)), .val (.int p2), .val (.int p3), .val (.int p4), .unset, .unset, .unset] [])) (fun t k => XS.ifnullNo X0.here hx rfl (hb hby own_d_method_2_1) rfl k) ?_
  refine own_by (V := s₁.setTop (mkF m 5 #[.val (.ref o0), .val (.int (0 : Int32)), .val (.int p2), .val (.int p3), .val (.int p4), .unset, .unset, .unset] [(.ref o0)])) (fun t k => XS.aloadN X0.here hx rfl (hb hby own_d_method_2_4) rfl rfl k) ?_
  obtain ⟨cl1, Ar1, qa1, Sa1, Ma1, Ha1, Ua1⟩ := id A0
  have hl1 := len_of Sa1 Ma1
  refine own_by (V := s₁.setTop (mkF m 6 #[.val (.ref o0), .val (.int (0 : Int32)), .val (.int p2), .val (.int p3), .val (.int p4), .unset, .unset, .unset] [(.int (0 : Int32))])) (by have q := X0.arraylength hx (cell := cl1) (by rw [e0]; exact Ar1.1) (State.isArrayOf_alike hZ.alike Ar1.2.1) (g := (mkF m 5 #[.val (.ref o0), .val (.int (0 : Int32)), .val (.int p2), .val (.int p3), .val (.int p4), .unset, .unset, .unset] [(.ref o0)])) rfl (rest := []) rfl (hb hby own_d_method_2_5); rw [hl1] at q; exact q) ?_
  refine own_by (V := s₁.setTop (mkF m 7 #[.val (.ref o0), .val (.int (0 : Int32)), .val (.int p2), .val (.int p3), .val (.int p4), .unset, .unset, .unset] [(.int (0 : Int32)), (.int (0 : Int32))])) (fun t k => XS.iloadN X0.here hx rfl (hb hby own_d_method_2_6) rfl  k) ?_
  have hb7_2 : ((0 : Int32) = (0 : Int32)) := rfl
  refine own_by (V := s₁.setTop (mkF m 12 #[.val (.ref o0), .val (.int (0 : Int32)), .val (.int p2), .val (.int p3), .val (.int p4), .unset, .unset, .unset] [])) (fun t k => XS.icmpYes X0.here hx rfl (pc0 := 7) (pc' := 12) rfl (hb hby own_d_method_2_7) rfl (teq hb7_2).1 (by decide) (by decide) k) ?_
  refine own_by (V := s₁.setTop (mkF m 13 #[.val (.ref o0), .val (.int (0 : Int32)), .val (.int p2), .val (.int p3), .val (.int p4), .unset, .unset, .unset] [(.int (0 : Int32))])) (fun t k => XS.iloadN X0.here hx rfl (hb hby own_d_method_2_12) rfl  k) ?_
  have hb13_3 : ((0 : Int32) = (0 : Int32)) := rfl
  refine own_by (V := s₁.setTop (mkF m 16 #[.val (.ref o0), .val (.int (0 : Int32)), .val (.int p2), .val (.int p3), .val (.int p4), .unset, .unset, .unset] [])) (fun t k => XS.ifNo X0.here hx rfl (hb hby own_d_method_2_13) rfl ((if0 _ _).trans (teq hb13_3).2) k) ?_
  refine own_by (V := s₁.setTop (mkF m 17 #[.val (.ref o0), .val (.int (0 : Int32)), .val (.int p2), .val (.int p3), .val (.int p4), .unset, .unset, .unset] [(.int (1 : Int32))])) (fun t k => XS.iconst X0.here hx rfl (hb hby own_d_method_2_16) k) ?_
  refine own_retN X0 hx hlk e0 Bd.returns (t := .boolean) (by simp) rfl (hb hby own_d_method_2_17) ?_ (by decide) (by decide)
  exact ⟨congrArg (fun z => some (Value.int z)) (show (1 : Int32) = (1 : Int32) from by rfl), N0, rfl⟩
def own_Q_own_ins_1 (Z : State) (o0 : Addr) (kb : ClassId) (x0 : Int32) (h0 : Heap) (n0 : Nat) : Option Value → Heap → List Loc → Prop := fun v h L => v = none ∧ Fr n0 L ∧ Keep h0 h [o0] ∧ Arv Z h o0 kb .int (1 : Int32) [(.int x0)] (.int (0 : Int32))
theorem own_ef_own_ins_1 (m : MethodId) (x0 : Addr) : entryFrame m #[(.ref x0), (.int (0 : Int32)), (.int (1 : Int32))] 6 = mkF m 0 #[.val (.ref x0), .val (.int (0 : Int32)), .val (.int (1 : Int32)), .unset, .unset, .unset] [] := by first | (simp [entryFrame, mkF, argsToLocals, Value.category]; done) | rfl
set_option maxRecDepth 65536 in
set_option maxHeartbeats 40000000 in
theorem own_ins_1 (l : Launch) (Z : State) (a0 : Array Value) (hw : ∀ d ∈ tables_1, d.before a0 Z = true) (ws : List Jvm.Cond) (o0 : Addr) (kb : ClassId) (x0 : Int32) (h0 : Heap) (n0 : Nat) (Z0 : n0 ≤ h0.size) (A0 : Arv Z h0 o0 kb .int (1 : Int32) [(.int x0)] (.int (0 : Int32))) (g0 : n0 ≤ o0) :
    MetFree l (⟨"java/util/DualPivotQuicksort", "insertionSort", "([III)V"⟩ : MethodName) (head1 (Jvm.Cond.code (⟨"java/util/DualPivotQuicksort", "insertionSort", "([III)V"⟩ : MethodName) jdk_2529_method_6_code 6 none :: ws) ({ frames := 0, cells := 0, slots := 0, locals := 0 } : Room)) (fun a U => a = #[(.ref o0), (.int (0 : Int32)), (.int (1 : Int32))] ∧ Z.Warmed39 U.vm ∧ U.heap = h0) (fun _ _ _ _ _ => True) (fun _ U o U' => ∃ v L, o = .returned v ∧ (own_Q_own_ins_1 Z o0 kb x0 h0 n0) v U'.heap L ∧ FrameEnd U o U' L ({ frames := 0, cells := 0, slots := 0, locals := 0 } : Room).cells ({ frames := 0, cells := 0, slots := 0, locals := 0 } : Room).slots) := by
  refine MetFree.of_bodySF (plainFor_of_name own_pn1) hisR ?_
  intro p e s m args below meth c s₁ Bd hml0 hP hK
  obtain ⟨rfl, hZ, hh⟩ := hP
  have hx := Bd.exec
  have hby := Bd.bytes
  have hml : c.maxLocals = 6 := hml0
  have hown : s.vm.findClass "java/util/DualPivotQuicksort" = some m.cls := findClass_of_methodNamed Bd.named
  have hnm := (name_of_methodNamed Bd.named Bd.method).1
  have hlk : meth.locks = false := BodyLoose.notSynchronized Bd
  have X0 : Stand p l e ({ frames := 0, cells := 0, slots := 0, locals := 0 } : Room) s m #[(.ref o0), (.int (0 : Int32)), (.int (1 : Int32))] below meth c s₁ [] 0 0 := Stand.of_body Bd
  have e0 : s₁.heap = h0 := by rw [← hh, Bd.state]; rfl
  have N0 := Fr.nil n0
  show own_Ends p e below s (own_Q_own_ins_1 Z o0 kb x0 h0 n0) ({ frames := 0, cells := 0, slots := 0, locals := 0 } : Room).cells ({ frames := 0, cells := 0, slots := 0, locals := 0 } : Room).slots _
  refine own_by (V := s₁.setTop (mkF m 0 #[.val (.ref o0), .val (.int (0 : Int32)), .val (.int (1 : Int32)), .unset, .unset, .unset] [])) (fun t k => castTop (own_ef_own_ins_1 m o0) k) ?_
  refine own_by (V := s₁.setTop (mkF m 1 #[.val (.ref o0), .val (.int (0 : Int32)), .val (.int (1 : Int32)), .unset, .unset, .unset] [(.int (0 : Int32))])) (fun t k => XS.iloadN X0.here hx rfl (hb hby own_d_jdk_2529_6_0) rfl  k) ?_
  refine own_by (V := s₁.setTop (mkF m 3 #[.val (.ref o0), .val (.int (0 : Int32)), .val (.int (1 : Int32)), .unset, .val (.int (0 : Int32)), .unset] [])) (fun t k => XS.istore X0.here hx rfl (hb hby own_d_jdk_2529_6_1) rfl (l' := #[.val (.ref o0), .val (.int (0 : Int32)), .val (.int (1 : Int32)), .unset, .val (.int (0 : Int32)), .unset]) rfl k) ?_
  refine own_by (V := s₁.setTop (mkF m 6 #[.val (.ref o0), .val (.int (0 : Int32)), .val (.int (1 : Int32)), .unset, .val (.int (1 : Int32)), .unset] [])) (fun t k => XS.iinc X0.here hx rfl (hb hby own_d_jdk_2529_6_3) rfl (l' := #[.val (.ref o0), .val (.int (0 : Int32)), .val (.int (1 : Int32)), .unset, .val (.int (1 : Int32)), .unset]) rfl k) ?_
  refine own_by (V := s₁.setTop (mkF m 8 #[.val (.ref o0), .val (.int (0 : Int32)), .val (.int (1 : Int32)), .unset, .val (.int (1 : Int32)), .unset] [(.int (1 : Int32))])) (fun t k => XS.iload X0.here hx rfl (hb hby own_d_jdk_2529_6_6) rfl  k) ?_
  refine own_by (V := s₁.setTop (mkF m 9 #[.val (.ref o0), .val (.int (0 : Int32)), .val (.int (1 : Int32)), .unset, .val (.int (1 : Int32)), .unset] [(.int (1 : Int32)), (.int (1 : Int32))])) (fun t k => XS.iloadN X0.here hx rfl (hb hby own_d_jdk_2529_6_8) rfl  k) ?_
  have hb9_1 : ¬ ((1 : Int32) < (1 : Int32)) := by decide
  refine own_by (V := s₁.setTop (mkF m 67 #[.val (.ref o0), .val (.int (0 : Int32)), .val (.int (1 : Int32)), .unset, .val (.int (1 : Int32)), .unset] [])) (fun t k => XS.icmpYes X0.here hx rfl (pc0 := 9) (pc' := 67) rfl (hb hby own_d_jdk_2529_6_9) rfl (flt hb9_1).2.1 (by decide) (by decide) k) ?_
  refine own_ret0 X0 hx hlk e0 Bd.returns (hb hby own_d_jdk_2529_6_67) ?_ (by decide) (by decide)
  exact ⟨rfl, N0, (Keep.refl h0 [o0]), A0⟩
def own_Q_own_dq2_1 (Z : State) (o1 : Addr) (kb : ClassId) (x0 : Int32) (h0 : Heap) (n0 : Nat) : Option Value → Heap → List Loc → Prop := fun v h L => v = none ∧ Fr n0 L ∧ Keep h0 h [o1] ∧ Arv Z h o1 kb .int (1 : Int32) [(.int x0)] (.int (0 : Int32))
theorem own_ef_own_dq2_1 (m : MethodId) (x1 : Addr) : entryFrame m #[.null, (.ref x1), (.int (0 : Int32)), (.int (0 : Int32)), (.int (1 : Int32))] 21 = mkF m 0 #[.val .null, .val (.ref x1), .val (.int (0 : Int32)), .val (.int (0 : Int32)), .val (.int (1 : Int32)), .unset, .unset, .unset, .unset, .unset, .unset, .unset, .unset, .unset, .unset, .unset, .unset, .unset, .unset, .unset, .unset] [] := by first | (simp [entryFrame, mkF, argsToLocals, Value.category]; done) | rfl
set_option maxRecDepth 65536 in
set_option maxHeartbeats 40000000 in
theorem own_dq2_1 (l : Launch) (Z : State) (a0 : Array Value) (hw : ∀ d ∈ tables_1, d.before a0 Z = true) (ws : List Jvm.Cond) (o1 : Addr) (kb : ClassId) (x0 : Int32) (h0 : Heap) (n0 : Nat) (Z0 : n0 ≤ h0.size) (A0 : Arv Z h0 o1 kb .int (1 : Int32) [(.int x0)] (.int (0 : Int32))) (g0 : n0 ≤ o1) :
    MetFree l (⟨"java/util/DualPivotQuicksort", "sort", "(Ljava/util/DualPivotQuicksort$Sorter;[IIII)V"⟩ : MethodName) (head1 (Jvm.Cond.code (⟨"java/util/DualPivotQuicksort", "sort", "(Ljava/util/DualPivotQuicksort$Sorter;[IIII)V"⟩ : MethodName) jdk_2529_method_4_code 21 none :: ws) ({ frames := 1, cells := 0, slots := 0, locals := 17 } : Room)) (fun a U => a = #[.null, (.ref o1), (.int (0 : Int32)), (.int (0 : Int32)), (.int (1 : Int32))] ∧ Z.Warmed39 U.vm ∧ U.heap = h0) (fun _ _ _ _ _ => True) (fun _ U o U' => ∃ v L, o = .returned v ∧ (own_Q_own_dq2_1 Z o1 kb x0 h0 n0) v U'.heap L ∧ FrameEnd U o U' L ({ frames := 1, cells := 0, slots := 0, locals := 17 } : Room).cells ({ frames := 1, cells := 0, slots := 0, locals := 17 } : Room).slots) := by
  refine MetFree.of_bodySF (plainFor_of_name own_pn1) hisR ?_
  intro p e s m args below meth c s₁ Bd hml0 hP hK
  obtain ⟨rfl, hZ, hh⟩ := hP
  have hx := Bd.exec
  have hby := Bd.bytes
  have hml : c.maxLocals = 21 := hml0
  have hown : s.vm.findClass "java/util/DualPivotQuicksort" = some m.cls := findClass_of_methodNamed Bd.named
  have hnm := (name_of_methodNamed Bd.named Bd.method).1
  have hlk : meth.locks = false := BodyLoose.notSynchronized Bd
  have X0 : Stand p l e ({ frames := 1, cells := 0, slots := 0, locals := 17 } : Room) s m #[.null, (.ref o1), (.int (0 : Int32)), (.int (0 : Int32)), (.int (1 : Int32))] below meth c s₁ [] 0 0 := Stand.of_body Bd
  have e0 : s₁.heap = h0 := by rw [← hh, Bd.state]; rfl
  have N0 := Fr.nil n0
  show own_Ends p e below s (own_Q_own_dq2_1 Z o1 kb x0 h0 n0) ({ frames := 1, cells := 0, slots := 0, locals := 17 } : Room).cells ({ frames := 1, cells := 0, slots := 0, locals := 17 } : Room).slots _
  refine own_by (V := s₁.setTop (mkF m 0 #[.val .null, .val (.ref o1), .val (.int (0 : Int32)), .val (.int (0 : Int32)), .val (.int (1 : Int32)), .unset, .unset, .unset, .unset, .unset, .unset, .unset, .unset, .unset, .unset, .unset, .unset, .unset, .unset, .unset, .unset] [])) (fun t k => castTop (own_ef_own_dq2_1 m o1) k) ?_
  refine own_by (V := s₁.setTop (mkF m 2 #[.val .null, .val (.ref o1), .val (.int (0 : Int32)), .val (.int (0 : Int32)), .val (.int (1 : Int32)), .unset, .unset, .unset, .unset, .unset, .unset, .unset, .unset, .unset, .unset, .unset, .unset, .unset, .unset, .unset, .unset] [(.int (1 : Int32))])) (fun t k => XS.iload X0.here hx rfl (hb hby own_d_jdk_2529_4_0) rfl  k) ?_
  refine own_by (V := s₁.setTop (mkF m 3 #[.val .null, .val (.ref o1), .val (.int (0 : Int32)), .val (.int (0 : Int32)), .val (.int (1 : Int32)), .unset, .unset, .unset, .unset, .unset, .unset, .unset, .unset, .unset, .unset, .unset, .unset, .unset, .unset, .unset, .unset] [(.int (1 : Int32)), (.int (1 : Int32))])) (fun t k => XS.iconst X0.here hx rfl (hb hby own_d_jdk_2529_4_2) k) ?_
  refine own_by (V := s₁.setTop (mkF m 4 #[.val .null, .val (.ref o1), .val (.int (0 : Int32)), .val (.int (0 : Int32)), .val (.int (1 : Int32)), .unset, .unset, .unset, .unset, .unset, .unset, .unset, .unset, .unset, .unset, .unset, .unset, .unset, .unset, .unset, .unset] [(.int (0 : Int32))])) (fun t k => XS.isub X0.here hx rfl (hb hby own_d_jdk_2529_4_3) rfl k) ?_
  refine own_by (V := s₁.setTop (mkF m 6 #[.val .null, .val (.ref o1), .val (.int (0 : Int32)), .val (.int (0 : Int32)), .val (.int (1 : Int32)), .val (.int (0 : Int32)), .unset, .unset, .unset, .unset, .unset, .unset, .unset, .unset, .unset, .unset, .unset, .unset, .unset, .unset, .unset] [])) (fun t k => XS.istore X0.here hx rfl (hb hby own_d_jdk_2529_4_4) rfl (l' := #[.val .null, .val (.ref o1), .val (.int (0 : Int32)), .val (.int (0 : Int32)), .val (.int (1 : Int32)), .val (.int (0 : Int32)), .unset, .unset, .unset, .unset, .unset, .unset, .unset, .unset, .unset, .unset, .unset, .unset, .unset, .unset, .unset]) rfl k) ?_
  refine own_by (V := s₁.setTop (mkF m 8 #[.val .null, .val (.ref o1), .val (.int (0 : Int32)), .val (.int (0 : Int32)), .val (.int (1 : Int32)), .val (.int (0 : Int32)), .unset, .unset, .unset, .unset, .unset, .unset, .unset, .unset, .unset, .unset, .unset, .unset, .unset, .unset, .unset] [(.int (1 : Int32))])) (fun t k => XS.iload X0.here hx rfl (hb hby own_d_jdk_2529_4_6) rfl  k) ?_
  refine own_by (V := s₁.setTop (mkF m 9 #[.val .null, .val (.ref o1), .val (.int (0 : Int32)), .val (.int (0 : Int32)), .val (.int (1 : Int32)), .val (.int (0 : Int32)), .unset, .unset, .unset, .unset, .unset, .unset, .unset, .unset, .unset, .unset, .unset, .unset, .unset, .unset, .unset] [(.int (0 : Int32)), (.int (1 : Int32))])) (fun t k => XS.iloadN X0.here hx rfl (hb hby own_d_jdk_2529_4_8) rfl  k) ?_
  refine own_by (V := s₁.setTop (mkF m 10 #[.val .null, .val (.ref o1), .val (.int (0 : Int32)), .val (.int (0 : Int32)), .val (.int (1 : Int32)), .val (.int (0 : Int32)), .unset, .unset, .unset, .unset, .unset, .unset, .unset, .unset, .unset, .unset, .unset, .unset, .unset, .unset, .unset] [(.int (1 : Int32))])) (fun t k => XS.isub X0.here hx rfl (hb hby own_d_jdk_2529_4_9) rfl k) ?_
  refine own_by (V := s₁.setTop (mkF m 12 #[.val .null, .val (.ref o1), .val (.int (0 : Int32)), .val (.int (0 : Int32)), .val (.int (1 : Int32)), .val (.int (0 : Int32)), .val (.int (1 : Int32)), .unset, .unset, .unset, .unset, .unset, .unset, .unset, .unset, .unset, .unset, .unset, .unset, .unset, .unset] [])) (fun t k => XS.istore X0.here hx rfl (hb hby own_d_jdk_2529_4_10) rfl (l' := #[.val .null, .val (.ref o1), .val (.int (0 : Int32)), .val (.int (0 : Int32)), .val (.int (1 : Int32)), .val (.int (0 : Int32)), .val (.int (1 : Int32)), .unset, .unset, .unset, .unset, .unset, .unset, .unset, .unset, .unset, .unset, .unset, .unset, .unset, .unset]) rfl k) ?_
  refine own_by (V := s₁.setTop (mkF m 14 #[.val .null, .val (.ref o1), .val (.int (0 : Int32)), .val (.int (0 : Int32)), .val (.int (1 : Int32)), .val (.int (0 : Int32)), .val (.int (1 : Int32)), .unset, .unset, .unset, .unset, .unset, .unset, .unset, .unset, .unset, .unset, .unset, .unset, .unset, .unset] [(.int (1 : Int32))])) (fun t k => XS.iload X0.here hx rfl (hb hby own_d_jdk_2529_4_12) rfl  k) ?_
  refine own_by (V := s₁.setTop (mkF m 16 #[.val .null, .val (.ref o1), .val (.int (0 : Int32)), .val (.int (0 : Int32)), .val (.int (1 : Int32)), .val (.int (0 : Int32)), .val (.int (1 : Int32)), .unset, .unset, .unset, .unset, .unset, .unset, .unset, .unset, .unset, .unset, .unset, .unset, .unset, .unset] [(.int (65 : Int32)), (.int (1 : Int32))])) (fun t k => XS.bipush X0.here hx rfl (hb hby own_d_jdk_2529_4_14) k) ?_
  refine own_by (V := s₁.setTop (mkF m 17 #[.val .null, .val (.ref o1), .val (.int (0 : Int32)), .val (.int (0 : Int32)), .val (.int (1 : Int32)), .val (.int (0 : Int32)), .val (.int (1 : Int32)), .unset, .unset, .unset, .unset, .unset, .unset, .unset, .unset, .unset, .unset, .unset, .unset, .unset, .unset] [(.int (0 : Int32)), (.int (65 : Int32)), (.int (1 : Int32))])) (fun t k => XS.iloadN X0.here hx rfl (hb hby own_d_jdk_2529_4_16) rfl  k) ?_
  refine own_by (V := s₁.setTop (mkF m 18 #[.val .null, .val (.ref o1), .val (.int (0 : Int32)), .val (.int (0 : Int32)), .val (.int (1 : Int32)), .val (.int (0 : Int32)), .val (.int (1 : Int32)), .unset, .unset, .unset, .unset, .unset, .unset, .unset, .unset, .unset, .unset, .unset, .unset, .unset, .unset] [(.int (65 : Int32)), (.int (1 : Int32))])) (fun t k => XS.iadd X0.here hx rfl (hb hby own_d_jdk_2529_4_17) rfl k) ?_
  have hb18_1 : ((1 : Int32) < (65 : Int32)) := by decide
  refine own_by (V := s₁.setTop (mkF m 21 #[.val .null, .val (.ref o1), .val (.int (0 : Int32)), .val (.int (0 : Int32)), .val (.int (1 : Int32)), .val (.int (0 : Int32)), .val (.int (1 : Int32)), .unset, .unset, .unset, .unset, .unset, .unset, .unset, .unset, .unset, .unset, .unset, .unset, .unset, .unset] [])) (fun t k => XS.icmpNo X0.here hx rfl (hb hby own_d_jdk_2529_4_18) rfl (tlt hb18_1).2.1 k) ?_
  refine own_by (V := s₁.setTop (mkF m 22 #[.val .null, .val (.ref o1), .val (.int (0 : Int32)), .val (.int (0 : Int32)), .val (.int (1 : Int32)), .val (.int (0 : Int32)), .val (.int (1 : Int32)), .unset, .unset, .unset, .unset, .unset, .unset, .unset, .unset, .unset, .unset, .unset, .unset, .unset, .unset] [(.int (0 : Int32))])) (fun t k => XS.iloadN X0.here hx rfl (hb hby own_d_jdk_2529_4_21) rfl  k) ?_
  refine own_by (V := s₁.setTop (mkF m 23 #[.val .null, .val (.ref o1), .val (.int (0 : Int32)), .val (.int (0 : Int32)), .val (.int (1 : Int32)), .val (.int (0 : Int32)), .val (.int (1 : Int32)), .unset, .unset, .unset, .unset, .unset, .unset, .unset, .unset, .unset, .unset, .unset, .unset, .unset, .unset] [(.int (1 : Int32)), (.int (0 : Int32))])) (fun t k => XS.iconst X0.here hx rfl (hb hby own_d_jdk_2529_4_22) k) ?_
  refine own_by (V := s₁.setTop (mkF m 24 #[.val .null, .val (.ref o1), .val (.int (0 : Int32)), .val (.int (0 : Int32)), .val (.int (1 : Int32)), .val (.int (0 : Int32)), .val (.int (1 : Int32)), .unset, .unset, .unset, .unset, .unset, .unset, .unset, .unset, .unset, .unset, .unset, .unset, .unset, .unset] [(.int (0 : Int32))])) (fun t k => XS.iand X0.here hx rfl (hb hby own_d_jdk_2529_4_23) rfl k) ?_
  have hb24_2 : ¬ ((0 : Int32) < (0 : Int32)) := by decide
  refine own_by (V := s₁.setTop (mkF m 46 #[.val .null, .val (.ref o1), .val (.int (0 : Int32)), .val (.int (0 : Int32)), .val (.int (1 : Int32)), .val (.int (0 : Int32)), .val (.int (1 : Int32)), .unset, .unset, .unset, .unset, .unset, .unset, .unset, .unset, .unset, .unset, .unset, .unset, .unset, .unset] [])) (fun t k => XS.ifYes X0.here hx rfl (pc0 := 24) (pc' := 46) rfl (hb hby own_d_jdk_2529_4_24) rfl ((if0 _ _).trans (flt hb24_2).2.2.2) (by decide) (by decide) k) ?_
  refine own_by (V := s₁.setTop (mkF m 48 #[.val .null, .val (.ref o1), .val (.int (0 : Int32)), .val (.int (0 : Int32)), .val (.int (1 : Int32)), .val (.int (0 : Int32)), .val (.int (1 : Int32)), .unset, .unset, .unset, .unset, .unset, .unset, .unset, .unset, .unset, .unset, .unset, .unset, .unset, .unset] [(.int (1 : Int32))])) (fun t k => XS.iload X0.here hx rfl (hb hby own_d_jdk_2529_4_46) rfl  k) ?_
  refine own_by (V := s₁.setTop (mkF m 50 #[.val .null, .val (.ref o1), .val (.int (0 : Int32)), .val (.int (0 : Int32)), .val (.int (1 : Int32)), .val (.int (0 : Int32)), .val (.int (1 : Int32)), .unset, .unset, .unset, .unset, .unset, .unset, .unset, .unset, .unset, .unset, .unset, .unset, .unset, .unset] [(.int (44 : Int32)), (.int (1 : Int32))])) (fun t k => XS.bipush X0.here hx rfl (hb hby own_d_jdk_2529_4_48) k) ?_
  have hb50_3 : ((1 : Int32) < (44 : Int32)) := by decide
  refine own_by (V := s₁.setTop (mkF m 53 #[.val .null, .val (.ref o1), .val (.int (0 : Int32)), .val (.int (0 : Int32)), .val (.int (1 : Int32)), .val (.int (0 : Int32)), .val (.int (1 : Int32)), .unset, .unset, .unset, .unset, .unset, .unset, .unset, .unset, .unset, .unset, .unset, .unset, .unset, .unset] [])) (fun t k => XS.icmpNo X0.here hx rfl (hb hby own_d_jdk_2529_4_50) rfl (tlt hb50_3).2.1 k) ?_
  refine own_by (V := s₁.setTop (mkF m 54 #[.val .null, .val (.ref o1), .val (.int (0 : Int32)), .val (.int (0 : Int32)), .val (.int (1 : Int32)), .val (.int (0 : Int32)), .val (.int (1 : Int32)), .unset, .unset, .unset, .unset, .unset, .unset, .unset, .unset, .unset, .unset, .unset, .unset, .unset, .unset] [(.ref o1)])) (fun t k => XS.aloadN X0.here hx rfl (hb hby own_d_jdk_2529_4_53) rfl rfl k) ?_
  refine own_by (V := s₁.setTop (mkF m 55 #[.val .null, .val (.ref o1), .val (.int (0 : Int32)), .val (.int (0 : Int32)), .val (.int (1 : Int32)), .val (.int (0 : Int32)), .val (.int (1 : Int32)), .unset, .unset, .unset, .unset, .unset, .unset, .unset, .unset, .unset, .unset, .unset, .unset, .unset, .unset] [(.int (0 : Int32)), (.ref o1)])) (fun t k => XS.iloadN X0.here hx rfl (hb hby own_d_jdk_2529_4_54) rfl  k) ?_
  refine own_by (V := s₁.setTop (mkF m 57 #[.val .null, .val (.ref o1), .val (.int (0 : Int32)), .val (.int (0 : Int32)), .val (.int (1 : Int32)), .val (.int (0 : Int32)), .val (.int (1 : Int32)), .unset, .unset, .unset, .unset, .unset, .unset, .unset, .unset, .unset, .unset, .unset, .unset, .unset, .unset] [(.int (1 : Int32)), (.int (0 : Int32)), (.ref o1)])) (fun t k => XS.iload X0.here hx rfl (hb hby own_d_jdk_2529_4_55) rfl  k) ?_
  obtain ⟨_, _, ⟨T4, Lq4, kq4, nq4⟩, -, X4, ⟨Lc4, hQ4, lq4, yq4, zq4⟩, st4⟩ := Jvm.LawKit.callS X0 hx (y := (⟨"java/util/DualPivotQuicksort", "insertionSort", "([III)V"⟩ : MethodName)) hown (mvT hZ (hw _ (List.mem_of_getElem? (i := 45) rfl))) (mvT hZ (hw _ (List.mem_of_getElem? (i := 46) rfl))) (mvT hZ (hw _ (List.mem_of_getElem? (i := 40) rfl))) (mvT hZ (hw _ (List.mem_of_getElem? (i := 47) rfl))) (by decide) (backOf (W := 0) (own_ins_1 l Z a0 hw [] o1 kb x0 h0 n0 Z0 A0 g0) hZ (hw _ (List.mem_of_getElem? (i := 47) rfl)) (hw _ (List.mem_of_getElem? (i := 40) rfl)) (by decide) (by decide)) (g := (mkF m 57 #[.val .null, .val (.ref o1), .val (.int (0 : Int32)), .val (.int (0 : Int32)), .val (.int (1 : Int32)), .val (.int (0 : Int32)), .val (.int (1 : Int32)), .unset, .unset, .unset, .unset, .unset, .unset, .unset, .unset, .unset, .unset, .unset, .unset, .unset, .unset] [(.int (1 : Int32)), (.int (0 : Int32)), (.ref o1)])) rfl (by rw [hml]; rfl) (argsL := [(.ref o1), (.int (0 : Int32)), (.int (1 : Int32))]) (rest := []) (lenOf own_pd0 rfl) rfl (by show 2 * 0 + _ ≤ _; exact Nat.le_of_eq rfl) (hb hby own_d_jdk_2529_4_57) (fun _ _ => ⟨rfl, e0, (by decide : 0 + 0 ≤ _), (by decide : 0 + 0 ≤ _)⟩)
  dsimp only [Pt.U, Pt.locs, Pt.cells, Pt.slots] at X4 lq4 yq4 zq4 st4 hQ4
  subst lq4 yq4 zq4
  obtain ⟨rfl, N4q, Kc4, g4_0⟩ := hQ4
  have N4 := Fr.app N0 N4q
  have K4 := (Keep.refl h0 [o1]).trans Kc4 (allS (Or.inl (List.mem_of_getElem? (i := 0) rfl)) all0)
  have Zs4 : n0 ≤ T4.heap.size := Nat.le_trans Z0 Kc4.1
  refine own_by (V := T4.setTop (mkF m 60 #[.val .null, .val (.ref o1), .val (.int (0 : Int32)), .val (.int (0 : Int32)), .val (.int (1 : Int32)), .val (.int (0 : Int32)), .val (.int (1 : Int32)), .unset, .unset, .unset, .unset, .unset, .unset, .unset, .unset, .unset, .unset, .unset, .unset, .unset, .unset] [])) st4 ?_
  refine own_ret0 X4 hx hlk rfl Bd.returns (hb hby own_d_jdk_2529_4_60) ?_ (by decide) (by decide)
  exact ⟨rfl, N4, K4, g4_0⟩
def own_Q_own_dq1_1 (Z : State) (o0 : Addr) (kb : ClassId) (x0 : Int32) (h0 : Heap) (n0 : Nat) : Option Value → Heap → List Loc → Prop := fun v h L => v = none ∧ Fr n0 L ∧ Keep h0 h [o0] ∧ Arv Z h o0 kb .int (1 : Int32) [(.int x0)] (.int (0 : Int32))
theorem own_ef_own_dq1_1 (m : MethodId) (x0 : Addr) : entryFrame m #[(.ref x0), (.int (0 : Int32)), (.int (0 : Int32)), (.int (1 : Int32))] 7 = mkF m 0 #[.val (.ref x0), .val (.int (0 : Int32)), .val (.int (0 : Int32)), .val (.int (1 : Int32)), .unset, .unset, .unset] [] := by first | (simp [entryFrame, mkF, argsToLocals, Value.category]; done) | rfl
set_option maxRecDepth 65536 in
set_option maxHeartbeats 40000000 in
theorem own_dq1_1 (l : Launch) (Z : State) (a0 : Array Value) (hw : ∀ d ∈ tables_1, d.before a0 Z = true) (ws : List Jvm.Cond) (o0 : Addr) (kb : ClassId) (x0 : Int32) (h0 : Heap) (n0 : Nat) (Z0 : n0 ≤ h0.size) (A0 : Arv Z h0 o0 kb .int (1 : Int32) [(.int x0)] (.int (0 : Int32))) (g0 : n0 ≤ o0) :
    MetFree l (⟨"java/util/DualPivotQuicksort", "sort", "([IIII)V"⟩ : MethodName) (head1 (Jvm.Cond.code (⟨"java/util/DualPivotQuicksort", "sort", "([IIII)V"⟩ : MethodName) jdk_2529_method_3_code 7 none :: ws) ({ frames := 2, cells := 0, slots := 0, locals := 49 } : Room)) (fun a U => a = #[(.ref o0), (.int (0 : Int32)), (.int (0 : Int32)), (.int (1 : Int32))] ∧ Z.Warmed39 U.vm ∧ U.heap = h0) (fun _ _ _ _ _ => True) (fun _ U o U' => ∃ v L, o = .returned v ∧ (own_Q_own_dq1_1 Z o0 kb x0 h0 n0) v U'.heap L ∧ FrameEnd U o U' L ({ frames := 2, cells := 0, slots := 0, locals := 49 } : Room).cells ({ frames := 2, cells := 0, slots := 0, locals := 49 } : Room).slots) := by
  refine MetFree.of_bodySF (plainFor_of_name own_pn1) hisR ?_
  intro p e s m args below meth c s₁ Bd hml0 hP hK
  obtain ⟨rfl, hZ, hh⟩ := hP
  have hx := Bd.exec
  have hby := Bd.bytes
  have hml : c.maxLocals = 7 := hml0
  have hown : s.vm.findClass "java/util/DualPivotQuicksort" = some m.cls := findClass_of_methodNamed Bd.named
  have hnm := (name_of_methodNamed Bd.named Bd.method).1
  have hlk : meth.locks = false := BodyLoose.notSynchronized Bd
  have X0 : Stand p l e ({ frames := 2, cells := 0, slots := 0, locals := 49 } : Room) s m #[(.ref o0), (.int (0 : Int32)), (.int (0 : Int32)), (.int (1 : Int32))] below meth c s₁ [] 0 0 := Stand.of_body Bd
  have e0 : s₁.heap = h0 := by rw [← hh, Bd.state]; rfl
  have N0 := Fr.nil n0
  show own_Ends p e below s (own_Q_own_dq1_1 Z o0 kb x0 h0 n0) ({ frames := 2, cells := 0, slots := 0, locals := 49 } : Room).cells ({ frames := 2, cells := 0, slots := 0, locals := 49 } : Room).slots _
  refine own_by (V := s₁.setTop (mkF m 0 #[.val (.ref o0), .val (.int (0 : Int32)), .val (.int (0 : Int32)), .val (.int (1 : Int32)), .unset, .unset, .unset] [])) (fun t k => castTop (own_ef_own_dq1_1 m o0) k) ?_
  refine own_by (V := s₁.setTop (mkF m 1 #[.val (.ref o0), .val (.int (0 : Int32)), .val (.int (0 : Int32)), .val (.int (1 : Int32)), .unset, .unset, .unset] [(.int (1 : Int32))])) (fun t k => XS.iloadN X0.here hx rfl (hb hby own_d_jdk_2529_3_0) rfl  k) ?_
  refine own_by (V := s₁.setTop (mkF m 2 #[.val (.ref o0), .val (.int (0 : Int32)), .val (.int (0 : Int32)), .val (.int (1 : Int32)), .unset, .unset, .unset] [(.int (0 : Int32)), (.int (1 : Int32))])) (fun t k => XS.iloadN X0.here hx rfl (hb hby own_d_jdk_2529_3_1) rfl  k) ?_
  refine own_by (V := s₁.setTop (mkF m 3 #[.val (.ref o0), .val (.int (0 : Int32)), .val (.int (0 : Int32)), .val (.int (1 : Int32)), .unset, .unset, .unset] [(.int (1 : Int32))])) (fun t k => XS.isub X0.here hx rfl (hb hby own_d_jdk_2529_3_2) rfl k) ?_
  refine own_by (V := s₁.setTop (mkF m 5 #[.val (.ref o0), .val (.int (0 : Int32)), .val (.int (0 : Int32)), .val (.int (1 : Int32)), .val (.int (1 : Int32)), .unset, .unset] [])) (fun t k => XS.istore X0.here hx rfl (hb hby own_d_jdk_2529_3_3) rfl (l' := #[.val (.ref o0), .val (.int (0 : Int32)), .val (.int (0 : Int32)), .val (.int (1 : Int32)), .val (.int (1 : Int32)), .unset, .unset]) rfl k) ?_
  refine own_by (V := s₁.setTop (mkF m 6 #[.val (.ref o0), .val (.int (0 : Int32)), .val (.int (0 : Int32)), .val (.int (1 : Int32)), .val (.int (1 : Int32)), .unset, .unset] [(.int (0 : Int32))])) (fun t k => XS.iloadN X0.here hx rfl (hb hby own_d_jdk_2529_3_5) rfl  k) ?_
  refine own_by (V := s₁.setTop (mkF m 7 #[.val (.ref o0), .val (.int (0 : Int32)), .val (.int (0 : Int32)), .val (.int (1 : Int32)), .val (.int (1 : Int32)), .unset, .unset] [(.int (1 : Int32)), (.int (0 : Int32))])) (fun t k => XS.iconst X0.here hx rfl (hb hby own_d_jdk_2529_3_6) k) ?_
  have hb7_1 : ¬ ((1 : Int32) < (0 : Int32)) := by decide
  refine own_by (V := s₁.setTop (mkF m 68 #[.val (.ref o0), .val (.int (0 : Int32)), .val (.int (0 : Int32)), .val (.int (1 : Int32)), .val (.int (1 : Int32)), .unset, .unset] [])) (fun t k => XS.icmpYes X0.here hx rfl (pc0 := 7) (pc' := 68) rfl (hb hby own_d_jdk_2529_3_7) rfl (flt hb7_1).2.2.2 (by decide) (by decide) k) ?_
  refine own_by (V := s₁.setTop (mkF m 69 #[.val (.ref o0), .val (.int (0 : Int32)), .val (.int (0 : Int32)), .val (.int (1 : Int32)), .val (.int (1 : Int32)), .unset, .unset] [.null])) (fun t k => XS.aconstNull X0.here hx rfl (hb hby own_d_jdk_2529_3_68) k) ?_
  refine own_by (V := s₁.setTop (mkF m 70 #[.val (.ref o0), .val (.int (0 : Int32)), .val (.int (0 : Int32)), .val (.int (1 : Int32)), .val (.int (1 : Int32)), .unset, .unset] [(.ref o0), .null])) (fun t k => XS.aloadN X0.here hx rfl (hb hby own_d_jdk_2529_3_69) rfl rfl k) ?_
  refine own_by (V := s₁.setTop (mkF m 71 #[.val (.ref o0), .val (.int (0 : Int32)), .val (.int (0 : Int32)), .val (.int (1 : Int32)), .val (.int (1 : Int32)), .unset, .unset] [(.int (0 : Int32)), (.ref o0), .null])) (fun t k => XS.iconst X0.here hx rfl (hb hby own_d_jdk_2529_3_70) k) ?_
  refine own_by (V := s₁.setTop (mkF m 72 #[.val (.ref o0), .val (.int (0 : Int32)), .val (.int (0 : Int32)), .val (.int (1 : Int32)), .val (.int (1 : Int32)), .unset, .unset] [(.int (0 : Int32)), (.int (0 : Int32)), (.ref o0), .null])) (fun t k => XS.iloadN X0.here hx rfl (hb hby own_d_jdk_2529_3_71) rfl  k) ?_
  refine own_by (V := s₁.setTop (mkF m 73 #[.val (.ref o0), .val (.int (0 : Int32)), .val (.int (0 : Int32)), .val (.int (1 : Int32)), .val (.int (1 : Int32)), .unset, .unset] [(.int (1 : Int32)), (.int (0 : Int32)), (.int (0 : Int32)), (.ref o0), .null])) (fun t k => XS.iloadN X0.here hx rfl (hb hby own_d_jdk_2529_3_72) rfl  k) ?_
  obtain ⟨_, _, ⟨T2, Lq2, kq2, nq2⟩, -, X2, ⟨Lc2, hQ2, lq2, yq2, zq2⟩, st2⟩ := Jvm.LawKit.callS X0 hx (y := (⟨"java/util/DualPivotQuicksort", "sort", "(Ljava/util/DualPivotQuicksort$Sorter;[IIII)V"⟩ : MethodName)) hown (mvT hZ (hw _ (List.mem_of_getElem? (i := 42) rfl))) (mvT hZ (hw _ (List.mem_of_getElem? (i := 43) rfl))) (mvT hZ (hw _ (List.mem_of_getElem? (i := 40) rfl))) (mvT hZ (hw _ (List.mem_of_getElem? (i := 44) rfl))) (by decide) (backOf (W := 0) (own_dq2_1 l Z a0 hw [] o0 kb x0 h0 n0 Z0 A0 g0) hZ (hw _ (List.mem_of_getElem? (i := 44) rfl)) (hw _ (List.mem_of_getElem? (i := 40) rfl)) (by decide) (by decide)) (g := (mkF m 73 #[.val (.ref o0), .val (.int (0 : Int32)), .val (.int (0 : Int32)), .val (.int (1 : Int32)), .val (.int (1 : Int32)), .unset, .unset] [(.int (1 : Int32)), (.int (0 : Int32)), (.int (0 : Int32)), (.ref o0), .null])) rfl (by rw [hml]; rfl) (argsL := [.null, (.ref o0), (.int (0 : Int32)), (.int (0 : Int32)), (.int (1 : Int32))]) (rest := []) (lenOf own_pd1 rfl) rfl (by show 2 * 0 + _ ≤ _; exact Nat.le_of_eq rfl) (hb hby own_d_jdk_2529_3_73) (fun _ _ => ⟨rfl, e0, (by decide : 0 + 0 ≤ _), (by decide : 0 + 0 ≤ _)⟩)
  dsimp only [Pt.U, Pt.locs, Pt.cells, Pt.slots] at X2 lq2 yq2 zq2 st2 hQ2
  subst lq2 yq2 zq2
  obtain ⟨rfl, N2q, Kc2, g2_0⟩ := hQ2
  have N2 := Fr.app N0 N2q
  have K2 := (Keep.refl h0 [o0]).trans Kc2 (allS (Or.inl (List.mem_of_getElem? (i := 0) rfl)) all0)
  have Zs2 : n0 ≤ T2.heap.size := Nat.le_trans Z0 Kc2.1
  refine own_by (V := T2.setTop (mkF m 76 #[.val (.ref o0), .val (.int (0 : Int32)), .val (.int (0 : Int32)), .val (.int (1 : Int32)), .val (.int (1 : Int32)), .unset, .unset] [])) st2 ?_
  refine own_ret0 X2 hx hlk rfl Bd.returns (hb hby own_d_jdk_2529_3_76) ?_ (by decide) (by decide)
  exact ⟨rfl, N2, K2, g2_0⟩
def own_Q_own_sort_1 (Z : State) (o0 : Addr) (kb : ClassId) (x0 : Int32) (h0 : Heap) (n0 : Nat) : Option Value → Heap → List Loc → Prop := fun v h L => v = none ∧ Fr n0 L ∧ Keep h0 h [o0] ∧ Arv Z h o0 kb .int (1 : Int32) [(.int x0)] (.int (0 : Int32))
theorem own_ef_own_sort_1 (m : MethodId) (x0 : Addr) : entryFrame m #[(.ref x0)] 1 = mkF m 0 #[.val (.ref x0)] [] := by first | (simp [entryFrame, mkF, argsToLocals, Value.category]; done) | rfl
set_option maxRecDepth 65536 in
set_option maxHeartbeats 40000000 in
theorem own_sort_1 (l : Launch) (Z : State) (a0 : Array Value) (hw : ∀ d ∈ tables_1, d.before a0 Z = true) (ws : List Jvm.Cond) (o0 : Addr) (kb : ClassId) (x0 : Int32) (h0 : Heap) (n0 : Nat) (Z0 : n0 ≤ h0.size) (A0 : Arv Z h0 o0 kb .int (1 : Int32) [(.int x0)] (.int (0 : Int32))) (g0 : n0 ≤ o0) :
    MetFree l (⟨"java/util/Arrays", "sort", "([I)V"⟩ : MethodName) (head1 (Jvm.Cond.code (⟨"java/util/Arrays", "sort", "([I)V"⟩ : MethodName) jdk_65_method_2_code 1 none :: ws) ({ frames := 3, cells := 0, slots := 0, locals := 67 } : Room)) (fun a U => a = #[(.ref o0)] ∧ Z.Warmed39 U.vm ∧ U.heap = h0) (fun _ _ _ _ _ => True) (fun _ U o U' => ∃ v L, o = .returned v ∧ (own_Q_own_sort_1 Z o0 kb x0 h0 n0) v U'.heap L ∧ FrameEnd U o U' L ({ frames := 3, cells := 0, slots := 0, locals := 67 } : Room).cells ({ frames := 3, cells := 0, slots := 0, locals := 67 } : Room).slots) := by
  refine MetFree.of_bodySF (plainFor_of_name own_pn2) hisR ?_
  intro p e s m args below meth c s₁ Bd hml0 hP hK
  obtain ⟨rfl, hZ, hh⟩ := hP
  have hx := Bd.exec
  have hby := Bd.bytes
  have hml : c.maxLocals = 1 := hml0
  have hown : s.vm.findClass "java/util/Arrays" = some m.cls := findClass_of_methodNamed Bd.named
  have hnm := (name_of_methodNamed Bd.named Bd.method).1
  have hlk : meth.locks = false := BodyLoose.notSynchronized Bd
  have X0 : Stand p l e ({ frames := 3, cells := 0, slots := 0, locals := 67 } : Room) s m #[(.ref o0)] below meth c s₁ [] 0 0 := Stand.of_body Bd
  have e0 : s₁.heap = h0 := by rw [← hh, Bd.state]; rfl
  have N0 := Fr.nil n0
  show own_Ends p e below s (own_Q_own_sort_1 Z o0 kb x0 h0 n0) ({ frames := 3, cells := 0, slots := 0, locals := 67 } : Room).cells ({ frames := 3, cells := 0, slots := 0, locals := 67 } : Room).slots _
  refine own_by (V := s₁.setTop (mkF m 0 #[.val (.ref o0)] [])) (fun t k => castTop (own_ef_own_sort_1 m o0) k) ?_
  refine own_by (V := s₁.setTop (mkF m 1 #[.val (.ref o0)] [(.ref o0)])) (fun t k => XS.aloadN X0.here hx rfl (hb hby own_d_jdk_65_2_0) rfl rfl k) ?_
  refine own_by (V := s₁.setTop (mkF m 2 #[.val (.ref o0)] [(.int (0 : Int32)), (.ref o0)])) (fun t k => XS.iconst X0.here hx rfl (hb hby own_d_jdk_65_2_1) k) ?_
  refine own_by (V := s₁.setTop (mkF m 3 #[.val (.ref o0)] [(.int (0 : Int32)), (.int (0 : Int32)), (.ref o0)])) (fun t k => XS.iconst X0.here hx rfl (hb hby own_d_jdk_65_2_2) k) ?_
  refine own_by (V := s₁.setTop (mkF m 4 #[.val (.ref o0)] [(.ref o0), (.int (0 : Int32)), (.int (0 : Int32)), (.ref o0)])) (fun t k => XS.aloadN X0.here hx rfl (hb hby own_d_jdk_65_2_3) rfl rfl k) ?_
  obtain ⟨cl1, Ar1, qa1, Sa1, Ma1, Ha1, Ua1⟩ := id A0
  have hl1 := len_of Sa1 Ma1
  refine own_by (V := s₁.setTop (mkF m 5 #[.val (.ref o0)] [(.int (1 : Int32)), (.int (0 : Int32)), (.int (0 : Int32)), (.ref o0)])) (by have q := X0.arraylength hx (cell := cl1) (by rw [e0]; exact Ar1.1) (State.isArrayOf_alike hZ.alike Ar1.2.1) (g := (mkF m 4 #[.val (.ref o0)] [(.ref o0), (.int (0 : Int32)), (.int (0 : Int32)), (.ref o0)])) rfl (rest := [(.int (0 : Int32)), (.int (0 : Int32)), (.ref o0)]) rfl (hb hby own_d_jdk_65_2_4); rw [hl1] at q; exact q) ?_
  obtain ⟨_, _, ⟨T2, Lq2, kq2, nq2⟩, -, X2, ⟨Lc2, hQ2, lq2, yq2, zq2⟩, st2⟩ := Jvm.LawKit.callS X0 hx (y := (⟨"java/util/DualPivotQuicksort", "sort", "([IIII)V"⟩ : MethodName)) hown (mvT hZ (hw _ (List.mem_of_getElem? (i := 38) rfl))) (mvT hZ (hw _ (List.mem_of_getElem? (i := 39) rfl))) (mvT hZ (hw _ (List.mem_of_getElem? (i := 40) rfl))) (mvT hZ (hw _ (List.mem_of_getElem? (i := 41) rfl))) (by decide) (backOf (W := 0) (own_dq1_1 l Z a0 hw [] o0 kb x0 h0 n0 Z0 A0 g0) hZ (hw _ (List.mem_of_getElem? (i := 41) rfl)) (hw _ (List.mem_of_getElem? (i := 40) rfl)) (by decide) (by decide)) (g := (mkF m 5 #[.val (.ref o0)] [(.int (1 : Int32)), (.int (0 : Int32)), (.int (0 : Int32)), (.ref o0)])) rfl (by rw [hml]; rfl) (argsL := [(.ref o0), (.int (0 : Int32)), (.int (0 : Int32)), (.int (1 : Int32))]) (rest := []) (lenOf own_pd2 rfl) rfl (by show 2 * 0 + _ ≤ _; exact Nat.le_of_eq rfl) (hb hby own_d_jdk_65_2_5) (fun _ _ => ⟨rfl, e0, (by decide : 0 + 0 ≤ _), (by decide : 0 + 0 ≤ _)⟩)
  dsimp only [Pt.U, Pt.locs, Pt.cells, Pt.slots] at X2 lq2 yq2 zq2 st2 hQ2
  subst lq2 yq2 zq2
  obtain ⟨rfl, N2q, Kc2, g2_0⟩ := hQ2
  have N2 := Fr.app N0 N2q
  have K2 := (Keep.refl h0 [o0]).trans Kc2 (allS (Or.inl (List.mem_of_getElem? (i := 0) rfl)) all0)
  have Zs2 : n0 ≤ T2.heap.size := Nat.le_trans Z0 Kc2.1
  refine own_by (V := T2.setTop (mkF m 8 #[.val (.ref o0)] [])) st2 ?_
  refine own_ret0 X2 hx hlk rfl Bd.returns (hb hby own_d_jdk_65_2_8) ?_ (by decide) (by decide)
  exact ⟨rfl, N2, K2, g2_0⟩
def own_Q_own_snap_1 (Z : State) (o0 : Addr) (o1 : Addr) (o2 : Addr) (kb : ClassId) (x0 : Int32) (h0 : Heap) (n0 : Nat) : Option Value → Heap → List Loc → Prop := fun v h L => ∃ (b : Addr), v = none ∧ Fr n0 L ∧ Keep h0 h [o0] ∧ h0.size ≤ b ∧ Exa Z h o0 "com/example/nocord/nocord/model/Snapshot" ∧ Fld Z h o0 "com/example/nocord/nocord/model/Snapshot" "timestamp" "Lcom/example/nocord/nocord/model/Timestamp;" (.ref o1) ∧ Fld Z h o0 "com/example/nocord/nocord/model/Snapshot" "installing" "[I" (.ref b) ∧ Arv Z h b kb .int (1 : Int32) [(.int x0)] (.int (0 : Int32)) ∧ Exa Z h b "[I"
theorem own_ef_own_snap_1 (m : MethodId) (x0 : Addr) (x1 : Addr) (x2 : Addr) : entryFrame m #[(.ref x0), (.ref x1), (.ref x2)] 3 = mkF m 0 #[.val (.ref x0), .val (.ref x1), .val (.ref x2)] [] := by first | (simp [entryFrame, mkF, argsToLocals, Value.category]; done) | rfl
set_option maxRecDepth 65536 in
set_option maxHeartbeats 40000000 in
theorem own_snap_1 (l : Launch) (Z : State) (a0 : Array Value) (hw : ∀ d ∈ tables_1, d.before a0 Z = true) (ws : List Jvm.Cond) (o0 : Addr) (o1 : Addr) (o2 : Addr) (kb : ClassId) (x0 : Int32) (h0 : Heap) (n0 : Nat) (Z0 : n0 ≤ h0.size) (g0 : n0 ≤ o0) (E0 : Exa Z h0 o0 "com/example/nocord/nocord/model/Snapshot") (Ft : Fld Z h0 o0 "com/example/nocord/nocord/model/Snapshot" "timestamp" "Lcom/example/nocord/nocord/model/Timestamp;" .null) (Fi : Fld Z h0 o0 "com/example/nocord/nocord/model/Snapshot" "installing" "[I" .null) (A2 : Arv Z h0 o2 kb .int (1 : Int32) [(.int x0)] (.int (0 : Int32))) (E2 : Exa Z h0 o2 "[I") (hne : o2 ≠ o0) :
    MetFree l (⟨"com/example/nocord/nocord/model/Snapshot", "<init>", "(Lcom/example/nocord/nocord/model/Timestamp;[I)V"⟩ : MethodName) (head1 (Jvm.Cond.code (⟨"com/example/nocord/nocord/model/Snapshot", "<init>", "(Lcom/example/nocord/nocord/model/Timestamp;[I)V"⟩ : MethodName) prog_47_method_1_code 3 none :: ws) ({ frames := 4, cells := 1, slots := 1, locals := 79 } : Room)) (fun a U => a = #[(.ref o0), (.ref o1), (.ref o2)] ∧ Z.Warmed39 U.vm ∧ U.heap = h0) (fun _ _ _ _ _ => True) (fun _ U o U' => ∃ v L, o = .returned v ∧ (own_Q_own_snap_1 Z o0 o1 o2 kb x0 h0 n0) v U'.heap L ∧ FrameEnd U o U' L ({ frames := 4, cells := 1, slots := 1, locals := 79 } : Room).cells ({ frames := 4, cells := 1, slots := 1, locals := 79 } : Room).slots) := by
  refine MetFree.of_bodySF (plainFor_of_name own_pn3) hisR ?_
  intro p e s m args below meth c s₁ Bd hml0 hP hK
  obtain ⟨rfl, hZ, hh⟩ := hP
  have hx := Bd.exec
  have hby := Bd.bytes
  have hml : c.maxLocals = 3 := hml0
  have hown : s.vm.findClass "com/example/nocord/nocord/model/Snapshot" = some m.cls := findClass_of_methodNamed Bd.named
  have hnm := (name_of_methodNamed Bd.named Bd.method).1
  have hlk : meth.locks = false := BodyLoose.notSynchronized Bd
  have X0 : Stand p l e ({ frames := 4, cells := 1, slots := 1, locals := 79 } : Room) s m #[(.ref o0), (.ref o1), (.ref o2)] below meth c s₁ [] 0 0 := Stand.of_body Bd
  have e0 : s₁.heap = h0 := by rw [← hh, Bd.state]; rfl
  have N0 := Fr.nil n0
  show own_Ends p e below s (own_Q_own_snap_1 Z o0 o1 o2 kb x0 h0 n0) ({ frames := 4, cells := 1, slots := 1, locals := 79 } : Room).cells ({ frames := 4, cells := 1, slots := 1, locals := 79 } : Room).slots _
  refine own_by (V := s₁.setTop (mkF m 0 #[.val (.ref o0), .val (.ref o1), .val (.ref o2)] [])) (fun t k => castTop (own_ef_own_snap_1 m o0 o1 o2) k) ?_
  refine own_by (V := s₁.setTop (mkF m 1 #[.val (.ref o0), .val (.ref o1), .val (.ref o2)] [(.ref o0)])) (fun t k => XS.aloadN X0.here hx rfl (hb hby own_d_prog_47_1_0) rfl rfl k) ?_
  obtain ⟨T1, X1, e1, st1⟩ := initO X0 hx hZ hown (hw _ (List.mem_of_getElem? (i := 20) rfl)) (hw _ (List.mem_of_getElem? (i := 11) rfl)) (hw _ (List.mem_of_getElem? (i := 12) rfl)) e0 (g := (mkF m 1 #[.val (.ref o0), .val (.ref o1), .val (.ref o2)] [(.ref o0)])) rfl (by rw [hml]; rfl) rfl (hb hby own_d_prog_47_1_1) (by decide) (W := 0) (by show 2 * 0 + _ ≤ _; exact Nat.le_of_eq rfl) (by decide)
  refine own_by (V := T1.setTop (mkF m 4 #[.val (.ref o0), .val (.ref o1), .val (.ref o2)] [])) st1 ?_
  refine own_by (V := T1.setTop (mkF m 5 #[.val (.ref o0), .val (.ref o1), .val (.ref o2)] [(.ref o2)])) (fun t k => XS.aloadN X1.here hx rfl (hb hby own_d_prog_47_1_4) rfl rfl k) ?_
  refine own_by (V := T1.setTop (mkF m 8 #[.val (.ref o0), .val (.ref o1), .val (.ref o2)] [])) (fun t k => XS.ifnullNo X1.here hx rfl (hb hby own_d_prog_47_1_5) rfl k) ?_
  refine own_by (V := T1.setTop (mkF m 9 #[.val (.ref o0), .val (.ref o1), .val (.ref o2)] [(.ref o2)])) (fun t k => XS.aloadN X1.here hx rfl (hb hby own_d_prog_47_1_8) rfl rfl k) ?_
  obtain ⟨cl2, Ar2, qa2, Sa2, Ma2, Ha2, Ua2⟩ := id A2
  have hl2 := len_of Sa2 Ma2
  refine own_by (V := T1.setTop (mkF m 10 #[.val (.ref o0), .val (.ref o1), .val (.ref o2)] [(.int (1 : Int32))])) (by have q := X1.arraylength hx (cell := cl2) (by rw [e1]; exact Ar2.1) (State.isArrayOf_alike hZ.alike Ar2.2.1) (g := (mkF m 9 #[.val (.ref o0), .val (.ref o1), .val (.ref o2)] [(.ref o2)])) rfl (rest := []) rfl (hb hby own_d_prog_47_1_9); rw [hl2] at q; exact q) ?_
  refine own_by (V := T1.setTop (mkF m 13 #[.val (.ref o0), .val (.ref o1), .val (.ref o2)] [(.int (10000 : Int32)), (.int (1 : Int32))])) (fun t k => XS.sipush X1.here hx rfl (hb hby own_d_prog_47_1_10) k) ?_
  have hb13_3 : ¬ ((10000 : Int32) < (1 : Int32)) := by decide
  refine own_by (V := T1.setTop (mkF m 31 #[.val (.ref o0), .val (.ref o1), .val (.ref o2)] [])) (fun t k => XS.icmpYes X1.here hx rfl (pc0 := 13) (pc' := 31) rfl (hb hby own_d_prog_47_1_13) rfl (flt hb13_3).2.2.2 (by decide) (by decide) k) ?_
  refine own_by (V := T1.setTop (mkF m 32 #[.val (.ref o0), .val (.ref o1), .val (.ref o2)] [(.ref o0)])) (fun t k => XS.aloadN X1.here hx rfl (hb hby own_d_prog_47_1_31) rfl rfl k) ?_
  refine own_by (V := T1.setTop (mkF m 33 #[.val (.ref o0), .val (.ref o1), .val (.ref o2)] [(.ref o1), (.ref o0)])) (fun t k => XS.aloadN X1.here hx rfl (hb hby own_d_prog_47_1_32) rfl rfl k) ?_
  obtain ⟨T4, h4, X4, e4, W4, st4⟩ := putF X1 hx hZ hown (host := "") (Or.inl (hw _ (List.mem_of_getElem? (i := 21) rfl))) Via.refl e1 Ft E0 (Or.inr ⟨(hw _ (List.mem_of_getElem? (i := 22) rfl)), rfl, hnm⟩) (hw _ (List.mem_of_getElem? (i := 2) rfl)) (ty := (.object "com/example/nocord/nocord/model/Timestamp")) (by decide) rfl rfl (g := (mkF m 33 #[.val (.ref o0), .val (.ref o1), .val (.ref o2)] [(.ref o1), (.ref o0)])) rfl rfl (hb hby own_d_prog_47_1_33)
  have N4 := Fr.snoc X4 N0 g0
  have K4 := (Keep.refl h0 [o0]).wr W4 (Or.inl (List.mem_of_getElem? (i := 0) rfl))
  have Zs4 : n0 ≤ h4.size := by rw [W4.size]; exact Z0
  have f5 := E0.wr W4
  have f6 := Ft.same W4
  have f7 := Fi.other W4 (Or.inr (slot_ne (Or.inr (hw _ (List.mem_of_getElem? (i := 33) rfl))) (Or.inr (hw _ (List.mem_of_getElem? (i := 22) rfl))) (by decide) (t := (.array .int)) (t' := (.object "com/example/nocord/nocord/model/Timestamp")) (by decide) (by decide)))
  have f8 := A2.other W4 hne
  have f9 := E2.wr W4
  refine own_by (V := T4.setTop (mkF m 36 #[.val (.ref o0), .val (.ref o1), .val (.ref o2)] [])) st4 ?_
  refine own_by (V := T4.setTop (mkF m 37 #[.val (.ref o0), .val (.ref o1), .val (.ref o2)] [(.ref o0)])) (fun t k => XS.aloadN X4.here hx rfl (hb hby own_d_prog_47_1_36) rfl rfl k) ?_
  refine own_by (V := T4.setTop (mkF m 38 #[.val (.ref o0), .val (.ref o1), .val (.ref o2)] [(.ref o2), (.ref o0)])) (fun t k => XS.aloadN X4.here hx rfl (hb hby own_d_prog_47_1_37) rfl rfl k) ?_
  refine own_by (V := T4.setTop (mkF m 41 #[.val (.ref o0), .val (.ref o1), .val (.ref o2)] [(.ref o0)])) (fun t k => XS.ifnullNo X4.here hx rfl (hb hby own_d_prog_47_1_38) rfl k) ?_
  refine own_by (V := T4.setTop (mkF m 42 #[.val (.ref o0), .val (.ref o1), .val (.ref o2)] [(.ref o2), (.ref o0)])) (fun t k => XS.aloadN X4.here hx rfl (hb hby own_d_prog_47_1_41) rfl rfl k) ?_
  obtain ⟨T10, h10, X10, e10, E10, A10, Ex10, st10⟩ := cloneH X4 hx hZ hown (hw _ (List.mem_of_getElem? (i := 23) rfl)) (hw _ (List.mem_of_getElem? (i := 24) rfl)) (hw _ (List.mem_of_getElem? (i := 28) rfl)) (hw _ (List.mem_of_getElem? (i := 26) rfl)) (hw _ (List.mem_of_getElem? (i := 27) rfl)) (hw _ (List.mem_of_getElem? (i := 29) rfl)) e4 (Arv.arh f8) f9 (g := (mkF m 42 #[.val (.ref o0), .val (.ref o1), .val (.ref o2)] [(.ref o2), (.ref o0)])) rfl (by rw [hml]; rfl) rfl (hb hby own_d_prog_47_1_42) (by decide) (W := 1) (by show 2 * 0 + _ ≤ _; exact Nat.le_of_eq rfl) (by decide) (cap := 1) (by decide) (by decide) (by decide)
  obtain ⟨b10, g10⟩ : ∃ z, z = h4.size := ⟨_, rfl⟩
  rw [← g10] at A10 Ex10 st10
  have kb10 : h0.size ≤ b10 := Nat.le_trans K4.1 (Nat.le_of_eq g10.symm)
  have ne11 : o0 ≠ b10 := Nat.ne_of_lt (Nat.lt_of_lt_of_le f5.lt (Nat.le_of_eq g10.symm))
  have ne12 : o2 ≠ b10 := Nat.ne_of_lt (Nat.lt_of_lt_of_le f8.lt (Nat.le_of_eq g10.symm))
  have f14 := f5.ext E10
  have f15 := f6.ext E10
  have f16 := f7.ext E10
  have f17 := f8.ext E10
  have f18 := f9.ext E10
  have K10 := K4.ext E10
  have V10 : Arv Z h10 b10 kb .int (1 : Int32) [(.int x0)] (.int (0 : Int32)) := A10
  have gn10 : n0 ≤ b10 := Nat.le_trans Zs4 (Nat.le_of_eq g10.symm)
  have Zs10 : n0 ≤ h10.size := Nat.le_trans Zs4 E10.1
  refine own_by (V := T10.setTop (mkF m 45 #[.val (.ref o0), .val (.ref o1), .val (.ref o2)] [(.ref b10), (.ref o0)])) st10 ?_
  obtain ⟨T24, X24, e24, st24⟩ := castY X10 hx hZ hown (hw _ (List.mem_of_getElem? (i := 30) rfl)) e10 (Ins.self Ex10) (g := (mkF m 45 #[.val (.ref o0), .val (.ref o1), .val (.ref o2)] [(.ref b10), (.ref o0)])) rfl rfl (hb hby own_d_prog_47_1_45)
  refine own_by (V := T24.setTop (mkF m 48 #[.val (.ref o0), .val (.ref o1), .val (.ref o2)] [(.ref b10), (.ref o0)])) st24 ?_
  refine own_by (V := T24.setTop (mkF m 52 #[.val (.ref o0), .val (.ref o1), .val (.ref o2)] [(.ref b10), (.ref o0)])) (fun t k => XS.goto X24.here hx rfl (pc0 := 48) (pc' := 52) rfl (hb hby own_d_prog_47_1_48) (by decide) (by decide) k) ?_
  obtain ⟨T25, h25, X25, e25, W25, st25⟩ := putF X24 hx hZ hown (host := "") (Or.inl (hw _ (List.mem_of_getElem? (i := 32) rfl))) Via.refl e24 f16 f14 (Or.inr ⟨(hw _ (List.mem_of_getElem? (i := 33) rfl)), rfl, hnm⟩) (hw _ (List.mem_of_getElem? (i := 2) rfl)) (ty := (.array .int)) (by decide) rfl rfl (g := (mkF m 52 #[.val (.ref o0), .val (.ref o1), .val (.ref o2)] [(.ref b10), (.ref o0)])) rfl rfl (hb hby own_d_prog_47_1_52)
  have N25 := Fr.snoc X25 N4 g0
  have K25 := K10.wr W25 (Or.inl (List.mem_of_getElem? (i := 0) rfl))
  have Zs25 : n0 ≤ h25.size := by rw [W25.size]; exact Zs10
  have f26 := f14.wr W25
  have f27 := f15.other W25 (Or.inr (slot_ne (Or.inr (hw _ (List.mem_of_getElem? (i := 22) rfl))) (Or.inr (hw _ (List.mem_of_getElem? (i := 33) rfl))) (by decide) (t := (.object "com/example/nocord/nocord/model/Timestamp")) (t' := (.array .int)) (by decide) (by decide)))
  have f28 := f16.same W25
  have f29 := f17.other W25 hne
  have f30 := f18.wr W25
  have f31 := V10.other W25 (Ne.symm ne11)
  have f32 := Ex10.wr W25
  refine own_by (V := T25.setTop (mkF m 55 #[.val (.ref o0), .val (.ref o1), .val (.ref o2)] [])) st25 ?_
  refine own_by (V := T25.setTop (mkF m 56 #[.val (.ref o0), .val (.ref o1), .val (.ref o2)] [(.ref o0)])) (fun t k => XS.aloadN X25.here hx rfl (hb hby own_d_prog_47_1_55) rfl rfl k) ?_
  obtain ⟨T33, X33, e33, st33⟩ := getF X25 hx hZ hown (host := "") (Or.inl (hw _ (List.mem_of_getElem? (i := 32) rfl))) Via.refl e25 f28 (g := (mkF m 56 #[.val (.ref o0), .val (.ref o1), .val (.ref o2)] [(.ref o0)])) rfl rfl (hb hby own_d_prog_47_1_56)
  refine own_by (V := T33.setTop (mkF m 59 #[.val (.ref o0), .val (.ref o1), .val (.ref o2)] [(.ref b10)])) st33 ?_
  refine own_by (V := T33.setTop (mkF m 62 #[.val (.ref o0), .val (.ref o1), .val (.ref o2)] [])) (fun t k => XS.ifnullNo X33.here hx rfl (hb hby own_d_prog_47_1_59) rfl k) ?_
  refine own_by (V := T33.setTop (mkF m 63 #[.val (.ref o0), .val (.ref o1), .val (.ref o2)] [(.ref o0)])) (fun t k => XS.aloadN X33.here hx rfl (hb hby own_d_prog_47_1_62) rfl rfl k) ?_
  obtain ⟨T34, X34, e34, st34⟩ := getF X33 hx hZ hown (host := "") (Or.inl (hw _ (List.mem_of_getElem? (i := 32) rfl))) Via.refl e33 f28 (g := (mkF m 63 #[.val (.ref o0), .val (.ref o1), .val (.ref o2)] [(.ref o0)])) rfl rfl (hb hby own_d_prog_47_1_63)
  refine own_by (V := T34.setTop (mkF m 66 #[.val (.ref o0), .val (.ref o1), .val (.ref o2)] [(.ref b10)])) st34 ?_
  obtain ⟨_, _, ⟨T35, Lq35, kq35, nq35⟩, -, X35, ⟨Lc35, hQ35, lq35, yq35, zq35⟩, st35⟩ := Jvm.LawKit.callS X34 hx (y := (⟨"java/util/Arrays", "sort", "([I)V"⟩ : MethodName)) hown (mvT hZ (hw _ (List.mem_of_getElem? (i := 34) rfl))) (mvT hZ (hw _ (List.mem_of_getElem? (i := 35) rfl))) (mvT hZ (hw _ (List.mem_of_getElem? (i := 36) rfl))) (mvT hZ (hw _ (List.mem_of_getElem? (i := 37) rfl))) (by decide) (backOf (W := 0) (own_sort_1 l Z a0 hw [] b10 kb x0 h25 n0 Zs25 f31 gn10) hZ (hw _ (List.mem_of_getElem? (i := 37) rfl)) (hw _ (List.mem_of_getElem? (i := 36) rfl)) (by decide) (by decide)) (g := (mkF m 66 #[.val (.ref o0), .val (.ref o1), .val (.ref o2)] [(.ref b10)])) rfl (by rw [hml]; rfl) (argsL := [(.ref b10)]) (rest := []) (lenOf own_pd3 rfl) rfl (by show 2 * 0 + _ ≤ _; exact Nat.le_of_eq rfl) (hb hby own_d_prog_47_1_66) (fun _ _ => ⟨rfl, e34, (by decide : 1 + 0 ≤ _), (by decide : 1 + 0 ≤ _)⟩)
  dsimp only [Pt.U, Pt.locs, Pt.cells, Pt.slots] at X35 lq35 yq35 zq35 st35 hQ35
  subst lq35 yq35 zq35
  obtain ⟨rfl, N35q, Kc35, g35_0⟩ := hQ35
  have N35 := Fr.app N25 N35q
  have f36 := f26.keep Kc35
  have f37 := f27.keep Kc35 (ninS ne11 nin0)
  have f38 := f28.keep Kc35 (ninS ne11 nin0)
  have f39 := f29.keep Kc35 (ninS ne12 nin0)
  have f40 := f30.keep Kc35
  have f42 := f32.keep Kc35
  have K35 := K25.trans Kc35 (allS (Or.inr kb10) all0)
  have Zs35 : n0 ≤ T35.heap.size := Nat.le_trans Zs25 Kc35.1
  refine own_by (V := T35.setTop (mkF m 69 #[.val (.ref o0), .val (.ref o1), .val (.ref o2)] [])) st35 ?_
  refine own_ret0 X35 hx hlk rfl Bd.returns (hb hby own_d_prog_47_1_69) ?_ (by decide) (by decide)
  exact ⟨b10, rfl, N35, K35, (kb10), f36, f37, f38, g35_0, f42⟩
def own_Q_own_hash_1 (Z : State) (o0 : Addr) (b : Addr) (kb : ClassId) (y0 : Int32) (h0 : Heap) (n0 : Nat) : Option Value → Heap → List Loc → Prop := fun v h L => ∃ (r : Addr), v = some (.ref r) ∧ Fr n0 L ∧ Keep h0 h [] ∧ h0.size ≤ r ∧ Arv Z h r kb .int (1 : Int32) [(.int y0)] (.int (0 : Int32)) ∧ Exa Z h r "[I"
theorem own_ef_own_hash_1 (m : MethodId) (x0 : Addr) : entryFrame m #[(.ref x0)] 1 = mkF m 0 #[.val (.ref x0)] [] := by first | (simp [entryFrame, mkF, argsToLocals, Value.category]; done) | rfl
set_option maxRecDepth 65536 in
set_option maxHeartbeats 40000000 in
theorem own_hash_1 (l : Launch) (Z : State) (a0 : Array Value) (hw : ∀ d ∈ tables_1, d.before a0 Z = true) (ws : List Jvm.Cond) (o0 : Addr) (b : Addr) (kb : ClassId) (y0 : Int32) (h0 : Heap) (n0 : Nat) (Z0 : n0 ≤ h0.size) (Fi : Fld Z h0 o0 "com/example/nocord/nocord/model/Snapshot" "installing" "[I" (.ref b)) (Ab : Arv Z h0 b kb .int (1 : Int32) [(.int y0)] (.int (0 : Int32))) (Eb : Exa Z h0 b "[I") :
    MetFree l (⟨"com/example/nocord/nocord/model/Snapshot", "installingHashes", "()[I"⟩ : MethodName) (head1 (Jvm.Cond.code (⟨"com/example/nocord/nocord/model/Snapshot", "installingHashes", "()[I"⟩ : MethodName) prog_47_method_3_code 1 (some (.array .int)) :: ws) ({ frames := 1, cells := 1, slots := 1, locals := 14 } : Room)) (fun a U => a = #[(.ref o0)] ∧ Z.Warmed39 U.vm ∧ U.heap = h0) (fun _ _ _ _ _ => True) (fun _ U o U' => ∃ v L, o = .returned v ∧ (own_Q_own_hash_1 Z o0 b kb y0 h0 n0) v U'.heap L ∧ FrameEnd U o U' L ({ frames := 1, cells := 1, slots := 1, locals := 14 } : Room).cells ({ frames := 1, cells := 1, slots := 1, locals := 14 } : Room).slots) := by
  refine MetFree.of_bodySF (plainFor_of_name own_pn3) hisR ?_
  intro p e s m args below meth c s₁ Bd hml0 hP hK
  obtain ⟨rfl, hZ, hh⟩ := hP
  have hx := Bd.exec
  have hby := Bd.bytes
  have hml : c.maxLocals = 1 := hml0
  have hown : s.vm.findClass "com/example/nocord/nocord/model/Snapshot" = some m.cls := findClass_of_methodNamed Bd.named
  have hnm := (name_of_methodNamed Bd.named Bd.method).1
  have hlk : meth.locks = false := BodyLoose.notSynchronized Bd
  have X0 : Stand p l e ({ frames := 1, cells := 1, slots := 1, locals := 14 } : Room) s m #[(.ref o0)] below meth c s₁ [] 0 0 := Stand.of_body Bd
  have e0 : s₁.heap = h0 := by rw [← hh, Bd.state]; rfl
  have N0 := Fr.nil n0
  show own_Ends p e below s (own_Q_own_hash_1 Z o0 b kb y0 h0 n0) ({ frames := 1, cells := 1, slots := 1, locals := 14 } : Room).cells ({ frames := 1, cells := 1, slots := 1, locals := 14 } : Room).slots _
  refine own_by (V := s₁.setTop (mkF m 0 #[.val (.ref o0)] [])) (fun t k => castTop (own_ef_own_hash_1 m o0) k) ?_
  refine own_by (V := s₁.setTop (mkF m 1 #[.val (.ref o0)] [(.ref o0)])) (fun t k => XS.aloadN X0.here hx rfl (hb hby own_d_prog_47_3_0) rfl rfl k) ?_
  obtain ⟨T1, X1, e1, st1⟩ := getF X0 hx hZ hown (host := "") (Or.inl (hw _ (List.mem_of_getElem? (i := 32) rfl))) Via.refl e0 Fi (g := (mkF m 1 #[.val (.ref o0)] [(.ref o0)])) rfl rfl (hb hby own_d_prog_47_3_1)
  refine own_by (V := T1.setTop (mkF m 4 #[.val (.ref o0)] [(.ref b)])) st1 ?_
  refine own_by (V := T1.setTop (mkF m 7 #[.val (.ref o0)] [])) (fun t k => XS.ifnullNo X1.here hx rfl (hb hby own_d_prog_47_3_4) rfl k) ?_
  refine own_by (V := T1.setTop (mkF m 8 #[.val (.ref o0)] [(.ref o0)])) (fun t k => XS.aloadN X1.here hx rfl (hb hby own_d_prog_47_3_7) rfl rfl k) ?_
  obtain ⟨T2, X2, e2, st2⟩ := getF X1 hx hZ hown (host := "") (Or.inl (hw _ (List.mem_of_getElem? (i := 32) rfl))) Via.refl e1 Fi (g := (mkF m 8 #[.val (.ref o0)] [(.ref o0)])) rfl rfl (hb hby own_d_prog_47_3_8)
  refine own_by (V := T2.setTop (mkF m 11 #[.val (.ref o0)] [(.ref b)])) st2 ?_
  obtain ⟨T3, h3, X3, e3, E3, A3, Ex3, st3⟩ := cloneH X2 hx hZ hown (hw _ (List.mem_of_getElem? (i := 23) rfl)) (hw _ (List.mem_of_getElem? (i := 24) rfl)) (hw _ (List.mem_of_getElem? (i := 28) rfl)) (hw _ (List.mem_of_getElem? (i := 26) rfl)) (hw _ (List.mem_of_getElem? (i := 27) rfl)) (hw _ (List.mem_of_getElem? (i := 29) rfl)) e2 (Arv.arh Ab) Eb (g := (mkF m 11 #[.val (.ref o0)] [(.ref b)])) rfl (by rw [hml]; rfl) rfl (hb hby own_d_prog_47_3_11) (by decide) (W := 0) (by show 2 * 0 + _ ≤ _; exact Nat.le_of_eq rfl) (by decide) (cap := 1) (by decide) (by decide) (by decide)
  obtain ⟨b3, g3⟩ : ∃ z, z = h0.size := ⟨_, rfl⟩
  rw [← g3] at A3 Ex3 st3
  have kb3 : h0.size ≤ b3 := Nat.le_trans (Keep.refl h0 []).1 (Nat.le_of_eq g3.symm)
  have ne4 : o0 ≠ b3 := Nat.ne_of_lt (Nat.lt_of_lt_of_le Fi.lt (Nat.le_of_eq g3.symm))
  have ne5 : b ≠ b3 := Nat.ne_of_lt (Nat.lt_of_lt_of_le Ab.lt (Nat.le_of_eq g3.symm))
  have f6 := Fi.ext E3
  have f7 := Ab.ext E3
  have f8 := Eb.ext E3
  have K3 := (Keep.refl h0 []).ext E3
  have V3 : Arv Z h3 b3 kb .int (1 : Int32) [(.int y0)] (.int (0 : Int32)) := A3
  have gn3 : n0 ≤ b3 := Nat.le_trans Z0 (Nat.le_of_eq g3.symm)
  have Zs3 : n0 ≤ h3.size := Nat.le_trans Z0 E3.1
  refine own_by (V := T3.setTop (mkF m 14 #[.val (.ref o0)] [(.ref b3)])) st3 ?_
  obtain ⟨T12, X12, e12, st12⟩ := castY X3 hx hZ hown (hw _ (List.mem_of_getElem? (i := 30) rfl)) e3 (Ins.self Ex3) (g := (mkF m 14 #[.val (.ref o0)] [(.ref b3)])) rfl rfl (hb hby own_d_prog_47_3_14)
  refine own_by (V := T12.setTop (mkF m 17 #[.val (.ref o0)] [(.ref b3)])) st12 ?_
  refine own_by (V := T12.setTop (mkF m 21 #[.val (.ref o0)] [(.ref b3)])) (fun t k => XS.goto X12.here hx rfl (pc0 := 17) (pc' := 21) rfl (hb hby own_d_prog_47_3_17) (by decide) (by decide) k) ?_
  refine own_retA X12 hx hlk e12 (w := (.ref b3)) rfl Bd.returns rfl (hb hby own_d_prog_47_3_21) ?_ (by decide) (by decide)
  exact ⟨b3, rfl, N0, K3, (kb3), V3, Ex3⟩
def own_Q_own_match_1 (Z : State) (o0 : Addr) (p2 : Int32) (p3 : Int32) (p4 : Int32) (kb : ClassId) (h0 : Heap) (n0 : Nat) : Option Value → Heap → List Loc → Prop := fun v h L => v = some (.int (1 : Int32)) ∧ Fr n0 L ∧ h = h0
theorem own_ef_own_match_1 (m : MethodId) (x0 : Addr) (x2 : Int32) (x3 : Int32) (x4 : Int32) : entryFrame m #[(.ref x0), (.int (1 : Int32)), (.int x2), (.int x3), (.int x4)] 8 = mkF m 0 #[.val (.ref x0), .val (.int (1 : Int32)), .val (.int x2), .val (.int x3), .val (.int x4), .unset, .unset, .unset] [] := by first | (simp [entryFrame, mkF, argsToLocals, Value.category]; done) | rfl
set_option maxRecDepth 65536 in
set_option maxHeartbeats 40000000 in
theorem own_match_1 (l : Launch) (Z : State) (a0 : Array Value) (hw : ∀ d ∈ tables_1, d.before a0 Z = true) (ws : List Jvm.Cond) (o0 : Addr) (p2 : Int32) (p3 : Int32) (p4 : Int32) (kb : ClassId) (h0 : Heap) (n0 : Nat) (A0 : Arv Z h0 o0 kb .int (1 : Int32) [(.int p2)] (.int (0 : Int32))) :
    MetFree l (⟨"com/example/nocord/nocord/model/SnapshotInstallingHashesPinLaw", "matches", "([IIIII)Z"⟩ : MethodName) (head1 (Jvm.Cond.code (⟨"com/example/nocord/nocord/model/SnapshotInstallingHashesPinLaw", "matches", "([IIIII)Z"⟩ : MethodName) method_2_code 8 (some .boolean) :: ws) ({ frames := 0, cells := 0, slots := 0, locals := 0 } : Room)) (fun a U => a = #[(.ref o0), (.int (1 : Int32)), (.int p2), (.int p3), (.int p4)] ∧ Z.Warmed39 U.vm ∧ U.heap = h0) (fun _ _ _ _ _ => True) (fun _ U o U' => ∃ v L, o = .returned v ∧ (own_Q_own_match_1 Z o0 p2 p3 p4 kb h0 n0) v U'.heap L ∧ FrameEnd U o U' L ({ frames := 0, cells := 0, slots := 0, locals := 0 } : Room).cells ({ frames := 0, cells := 0, slots := 0, locals := 0 } : Room).slots) := by
  refine MetFree.of_bodySF (plainFor_of_name own_pn4) hisR ?_
  intro p e s m args below meth c s₁ Bd hml0 hP hK
  obtain ⟨rfl, hZ, hh⟩ := hP
  have hx := Bd.exec
  have hby := Bd.bytes
  have hml : c.maxLocals = 8 := hml0
  have hown : s.vm.findClass "com/example/nocord/nocord/model/SnapshotInstallingHashesPinLaw" = some m.cls := findClass_of_methodNamed Bd.named
  have hnm := (name_of_methodNamed Bd.named Bd.method).1
  have hlk : meth.locks = false := BodyLoose.notSynchronized Bd
  have X0 : Stand p l e ({ frames := 0, cells := 0, slots := 0, locals := 0 } : Room) s m #[(.ref o0), (.int (1 : Int32)), (.int p2), (.int p3), (.int p4)] below meth c s₁ [] 0 0 := Stand.of_body Bd
  have e0 : s₁.heap = h0 := by rw [← hh, Bd.state]; rfl
  have N0 := Fr.nil n0
  show own_Ends p e below s (own_Q_own_match_1 Z o0 p2 p3 p4 kb h0 n0) ({ frames := 0, cells := 0, slots := 0, locals := 0 } : Room).cells ({ frames := 0, cells := 0, slots := 0, locals := 0 } : Room).slots _
  refine own_by (V := s₁.setTop (mkF m 0 #[.val (.ref o0), .val (.int (1 : Int32)), .val (.int p2), .val (.int p3), .val (.int p4), .unset, .unset, .unset] [])) (fun t k => castTop (own_ef_own_match_1 m o0 p2 p3 p4) k) ?_
  refine own_by (V := s₁.setTop (mkF m 1 #[.val (.ref o0), .val (.int (1 : Int32)), .val (.int p2), .val (.int p3), .val (.int p4), .unset, .unset, .unset] [(.ref o0)])) (fun t k => XS.aloadN X0.here hx rfl (hb hby own_d_method_2_0) rfl rfl k) ?_
  refine own_by (V := s₁.setTop (mkF m 4 #[.val (.ref o0), .val (.int (1 : Int32)), .val (.int p2), .val (.int p3), .val (.int p4), .unset, .unset, .unset] [])) (fun t k => XS.ifnullNo X0.here hx rfl (hb hby own_d_method_2_1) rfl k) ?_
  refine own_by (V := s₁.setTop (mkF m 5 #[.val (.ref o0), .val (.int (1 : Int32)), .val (.int p2), .val (.int p3), .val (.int p4), .unset, .unset, .unset] [(.ref o0)])) (fun t k => XS.aloadN X0.here hx rfl (hb hby own_d_method_2_4) rfl rfl k) ?_
  obtain ⟨cl1, Ar1, qa1, Sa1, Ma1, Ha1, Ua1⟩ := id A0
  have hl1 := len_of Sa1 Ma1
  refine own_by (V := s₁.setTop (mkF m 6 #[.val (.ref o0), .val (.int (1 : Int32)), .val (.int p2), .val (.int p3), .val (.int p4), .unset, .unset, .unset] [(.int (1 : Int32))])) (by have q := X0.arraylength hx (cell := cl1) (by rw [e0]; exact Ar1.1) (State.isArrayOf_alike hZ.alike Ar1.2.1) (g := (mkF m 5 #[.val (.ref o0), .val (.int (1 : Int32)), .val (.int p2), .val (.int p3), .val (.int p4), .unset, .unset, .unset] [(.ref o0)])) rfl (rest := []) rfl (hb hby own_d_method_2_5); rw [hl1] at q; exact q) ?_
  refine own_by (V := s₁.setTop (mkF m 7 #[.val (.ref o0), .val (.int (1 : Int32)), .val (.int p2), .val (.int p3), .val (.int p4), .unset, .unset, .unset] [(.int (1 : Int32)), (.int (1 : Int32))])) (fun t k => XS.iloadN X0.here hx rfl (hb hby own_d_method_2_6) rfl  k) ?_
  have hb7_2 : ((1 : Int32) = (1 : Int32)) := rfl
  refine own_by (V := s₁.setTop (mkF m 12 #[.val (.ref o0), .val (.int (1 : Int32)), .val (.int p2), .val (.int p3), .val (.int p4), .unset, .unset, .unset] [])) (fun t k => XS.icmpYes X0.here hx rfl (pc0 := 7) (pc' := 12) rfl (hb hby own_d_method_2_7) rfl (teq hb7_2).1 (by decide) (by decide) k) ?_
  refine own_by (V := s₁.setTop (mkF m 13 #[.val (.ref o0), .val (.int (1 : Int32)), .val (.int p2), .val (.int p3), .val (.int p4), .unset, .unset, .unset] [(.int (1 : Int32))])) (fun t k => XS.iloadN X0.here hx rfl (hb hby own_d_method_2_12) rfl  k) ?_
  have hb13_3 : ¬ ((1 : Int32) = (0 : Int32)) := by decide
  refine own_by (V := s₁.setTop (mkF m 18 #[.val (.ref o0), .val (.int (1 : Int32)), .val (.int p2), .val (.int p3), .val (.int p4), .unset, .unset, .unset] [])) (fun t k => XS.ifYes X0.here hx rfl (pc0 := 13) (pc' := 18) rfl (hb hby own_d_method_2_13) rfl ((if0 _ _).trans (feq hb13_3).2) (by decide) (by decide) k) ?_
  refine own_by (V := s₁.setTop (mkF m 19 #[.val (.ref o0), .val (.int (1 : Int32)), .val (.int p2), .val (.int p3), .val (.int p4), .unset, .unset, .unset] [(.int (1 : Int32))])) (fun t k => XS.iloadN X0.here hx rfl (hb hby own_d_method_2_18) rfl  k) ?_
  refine own_by (V := s₁.setTop (mkF m 20 #[.val (.ref o0), .val (.int (1 : Int32)), .val (.int p2), .val (.int p3), .val (.int p4), .unset, .unset, .unset] [(.int (1 : Int32)), (.int (1 : Int32))])) (fun t k => XS.iconst X0.here hx rfl (hb hby own_d_method_2_19) k) ?_
  have hb20_4 : ((1 : Int32) = (1 : Int32)) := rfl
  refine own_by (V := s₁.setTop (mkF m 23 #[.val (.ref o0), .val (.int (1 : Int32)), .val (.int p2), .val (.int p3), .val (.int p4), .unset, .unset, .unset] [])) (fun t k => XS.icmpNo X0.here hx rfl (hb hby own_d_method_2_20) rfl (teq hb20_4).2 k) ?_
  refine own_by (V := s₁.setTop (mkF m 24 #[.val (.ref o0), .val (.int (1 : Int32)), .val (.int p2), .val (.int p3), .val (.int p4), .unset, .unset, .unset] [(.ref o0)])) (fun t k => XS.aloadN X0.here hx rfl (hb hby own_d_method_2_23) rfl rfl k) ?_
  refine own_by (V := s₁.setTop (mkF m 25 #[.val (.ref o0), .val (.int (1 : Int32)), .val (.int p2), .val (.int p3), .val (.int p4), .unset, .unset, .unset] [(.int (0 : Int32)), (.ref o0)])) (fun t k => XS.iconst X0.here hx rfl (hb hby own_d_method_2_24) k) ?_
  obtain ⟨cl5, Ar5, qa5, Sa5, Ma5, Ha5, Ua5⟩ := id A0
  have hi5 := inb_of Sa5 (j := (0 : Int32)) ⟨(by decide), (by decide)⟩
  refine own_by (V := s₁.setTop (mkF m 26 #[.val (.ref o0), .val (.int (1 : Int32)), .val (.int p2), .val (.int p3), .val (.int p4), .unset, .unset, .unset] [(.int p2)])) (X0.iaload hx (j := (0 : Int32)) (v := (.int p2)) (by rw [e0]; exact Ar5.1) (State.isArrayOf_alike hZ.alike Ar5.2.1) Ar5.2.2 hi5 (Has.at Ha5 hi5 rfl) (g := (mkF m 25 #[.val (.ref o0), .val (.int (1 : Int32)), .val (.int p2), .val (.int p3), .val (.int p4), .unset, .unset, .unset] [(.int (0 : Int32)), (.ref o0)])) rfl rfl (hb hby own_d_method_2_25)) ?_
  refine own_by (V := s₁.setTop (mkF m 27 #[.val (.ref o0), .val (.int (1 : Int32)), .val (.int p2), .val (.int p3), .val (.int p4), .unset, .unset, .unset] [(.int p2), (.int p2)])) (fun t k => XS.iloadN X0.here hx rfl (hb hby own_d_method_2_26) rfl  k) ?_
  have hb27_6 : (p2 = p2) := rfl
  refine own_by (V := s₁.setTop (mkF m 30 #[.val (.ref o0), .val (.int (1 : Int32)), .val (.int p2), .val (.int p3), .val (.int p4), .unset, .unset, .unset] [])) (fun t k => XS.icmpNo X0.here hx rfl (hb hby own_d_method_2_27) rfl (teq hb27_6).2 k) ?_
  refine own_by (V := s₁.setTop (mkF m 31 #[.val (.ref o0), .val (.int (1 : Int32)), .val (.int p2), .val (.int p3), .val (.int p4), .unset, .unset, .unset] [(.int (1 : Int32))])) (fun t k => XS.iconst X0.here hx rfl (hb hby own_d_method_2_30) k) ?_
  refine own_by (V := s₁.setTop (mkF m 35 #[.val (.ref o0), .val (.int (1 : Int32)), .val (.int p2), .val (.int p3), .val (.int p4), .unset, .unset, .unset] [(.int (1 : Int32))])) (fun t k => XS.goto X0.here hx rfl (pc0 := 31) (pc' := 35) rfl (hb hby own_d_method_2_31) (by decide) (by decide) k) ?_
  refine own_retN X0 hx hlk e0 Bd.returns (t := .boolean) (by simp) rfl (hb hby own_d_method_2_35) ?_ (by decide) (by decide)
  exact ⟨congrArg (fun z => some (Value.int z)) (show (1 : Int32) = (1 : Int32) from by rfl), N0, rfl⟩
def own_Q_own_ins_2 (Z : State) (o0 : Addr) (kb : ClassId) (x0 : Int32) (x1 : Int32) (h0 : Heap) (n0 : Nat) : Option Value → Heap → List Loc → Prop := fun v h L => v = none ∧ Fr n0 L ∧ Keep h0 h [o0] ∧ Arv Z h o0 kb .int (2 : Int32) [(.int (own_min x0 x1)), (.int (own_max x0 x1))] (.int (0 : Int32))
theorem own_ef_own_ins_2 (m : MethodId) (x0 : Addr) : entryFrame m #[(.ref x0), (.int (0 : Int32)), (.int (2 : Int32))] 6 = mkF m 0 #[.val (.ref x0), .val (.int (0 : Int32)), .val (.int (2 : Int32)), .unset, .unset, .unset] [] := by first | (simp [entryFrame, mkF, argsToLocals, Value.category]; done) | rfl
set_option maxRecDepth 65536 in
set_option maxHeartbeats 40000000 in
theorem own_ins_2 (l : Launch) (Z : State) (a0 : Array Value) (hw : ∀ d ∈ tables_1, d.before a0 Z = true) (ws : List Jvm.Cond) (o0 : Addr) (kb : ClassId) (x0 : Int32) (x1 : Int32) (h0 : Heap) (n0 : Nat) (Z0 : n0 ≤ h0.size) (A0 : Arv Z h0 o0 kb .int (2 : Int32) [(.int x0), (.int x1)] (.int (0 : Int32))) (g0 : n0 ≤ o0) :
    MetFree l (⟨"java/util/DualPivotQuicksort", "insertionSort", "([III)V"⟩ : MethodName) (head1 (Jvm.Cond.code (⟨"java/util/DualPivotQuicksort", "insertionSort", "([III)V"⟩ : MethodName) jdk_2529_method_6_code 6 none :: ws) ({ frames := 0, cells := 0, slots := 0, locals := 0 } : Room)) (fun a U => a = #[(.ref o0), (.int (0 : Int32)), (.int (2 : Int32))] ∧ Z.Warmed39 U.vm ∧ U.heap = h0) (fun _ _ _ _ _ => True) (fun _ U o U' => ∃ v L, o = .returned v ∧ (own_Q_own_ins_2 Z o0 kb x0 x1 h0 n0) v U'.heap L ∧ FrameEnd U o U' L ({ frames := 0, cells := 0, slots := 0, locals := 0 } : Room).cells ({ frames := 0, cells := 0, slots := 0, locals := 0 } : Room).slots) := by
  refine MetFree.of_bodySF (plainFor_of_name own_pn1) hisR ?_
  intro p e s m args below meth c s₁ Bd hml0 hP hK
  obtain ⟨rfl, hZ, hh⟩ := hP
  have hx := Bd.exec
  have hby := Bd.bytes
  have hml : c.maxLocals = 6 := hml0
  have hown : s.vm.findClass "java/util/DualPivotQuicksort" = some m.cls := findClass_of_methodNamed Bd.named
  have hnm := (name_of_methodNamed Bd.named Bd.method).1
  have hlk : meth.locks = false := BodyLoose.notSynchronized Bd
  have X0 : Stand p l e ({ frames := 0, cells := 0, slots := 0, locals := 0 } : Room) s m #[(.ref o0), (.int (0 : Int32)), (.int (2 : Int32))] below meth c s₁ [] 0 0 := Stand.of_body Bd
  have e0 : s₁.heap = h0 := by rw [← hh, Bd.state]; rfl
  have N0 := Fr.nil n0
  show own_Ends p e below s (own_Q_own_ins_2 Z o0 kb x0 x1 h0 n0) ({ frames := 0, cells := 0, slots := 0, locals := 0 } : Room).cells ({ frames := 0, cells := 0, slots := 0, locals := 0 } : Room).slots _
  refine own_by (V := s₁.setTop (mkF m 0 #[.val (.ref o0), .val (.int (0 : Int32)), .val (.int (2 : Int32)), .unset, .unset, .unset] [])) (fun t k => castTop (own_ef_own_ins_2 m o0) k) ?_
  refine own_by (V := s₁.setTop (mkF m 1 #[.val (.ref o0), .val (.int (0 : Int32)), .val (.int (2 : Int32)), .unset, .unset, .unset] [(.int (0 : Int32))])) (fun t k => XS.iloadN X0.here hx rfl (hb hby own_d_jdk_2529_6_0) rfl  k) ?_
  refine own_by (V := s₁.setTop (mkF m 3 #[.val (.ref o0), .val (.int (0 : Int32)), .val (.int (2 : Int32)), .unset, .val (.int (0 : Int32)), .unset] [])) (fun t k => XS.istore X0.here hx rfl (hb hby own_d_jdk_2529_6_1) rfl (l' := #[.val (.ref o0), .val (.int (0 : Int32)), .val (.int (2 : Int32)), .unset, .val (.int (0 : Int32)), .unset]) rfl k) ?_
  refine own_by (V := s₁.setTop (mkF m 6 #[.val (.ref o0), .val (.int (0 : Int32)), .val (.int (2 : Int32)), .unset, .val (.int (1 : Int32)), .unset] [])) (fun t k => XS.iinc X0.here hx rfl (hb hby own_d_jdk_2529_6_3) rfl (l' := #[.val (.ref o0), .val (.int (0 : Int32)), .val (.int (2 : Int32)), .unset, .val (.int (1 : Int32)), .unset]) rfl k) ?_
  refine own_by (V := s₁.setTop (mkF m 8 #[.val (.ref o0), .val (.int (0 : Int32)), .val (.int (2 : Int32)), .unset, .val (.int (1 : Int32)), .unset] [(.int (1 : Int32))])) (fun t k => XS.iload X0.here hx rfl (hb hby own_d_jdk_2529_6_6) rfl  k) ?_
  refine own_by (V := s₁.setTop (mkF m 9 #[.val (.ref o0), .val (.int (0 : Int32)), .val (.int (2 : Int32)), .unset, .val (.int (1 : Int32)), .unset] [(.int (2 : Int32)), (.int (1 : Int32))])) (fun t k => XS.iloadN X0.here hx rfl (hb hby own_d_jdk_2529_6_8) rfl  k) ?_
  have hb9_1 : ((1 : Int32) < (2 : Int32)) := by decide
  refine own_by (V := s₁.setTop (mkF m 12 #[.val (.ref o0), .val (.int (0 : Int32)), .val (.int (2 : Int32)), .unset, .val (.int (1 : Int32)), .unset] [])) (fun t k => XS.icmpNo X0.here hx rfl (hb hby own_d_jdk_2529_6_9) rfl (tlt hb9_1).2.1 k) ?_
  refine own_by (V := s₁.setTop (mkF m 13 #[.val (.ref o0), .val (.int (0 : Int32)), .val (.int (2 : Int32)), .unset, .val (.int (1 : Int32)), .unset] [(.ref o0)])) (fun t k => XS.aloadN X0.here hx rfl (hb hby own_d_jdk_2529_6_12) rfl rfl k) ?_
  refine own_by (V := s₁.setTop (mkF m 15 #[.val (.ref o0), .val (.int (0 : Int32)), .val (.int (2 : Int32)), .unset, .val (.int (1 : Int32)), .unset] [(.int (1 : Int32)), (.ref o0)])) (fun t k => XS.iload X0.here hx rfl (hb hby own_d_jdk_2529_6_13) rfl  k) ?_
  refine own_by (V := s₁.setTop (mkF m 16 #[.val (.ref o0), .val (.int (0 : Int32)), .val (.int (2 : Int32)), .unset, .val (.int (1 : Int32)), .unset] [(.int (1 : Int32)), (.int (1 : Int32)), (.ref o0)])) (fun t k => XS.dup X0.here hx rfl (hb hby own_d_jdk_2529_6_15) rfl rfl k) ?_
  refine own_by (V := s₁.setTop (mkF m 17 #[.val (.ref o0), .val (.int (0 : Int32)), .val (.int (2 : Int32)), .val (.int (1 : Int32)), .val (.int (1 : Int32)), .unset] [(.int (1 : Int32)), (.ref o0)])) (fun t k => XS.istoreN X0.here hx rfl (hb hby own_d_jdk_2529_6_16) rfl (l' := #[.val (.ref o0), .val (.int (0 : Int32)), .val (.int (2 : Int32)), .val (.int (1 : Int32)), .val (.int (1 : Int32)), .unset]) rfl k) ?_
  obtain ⟨cl2, Ar2, qa2, Sa2, Ma2, Ha2, Ua2⟩ := id A0
  have hi2 := inb_of Sa2 (j := (1 : Int32)) ⟨(by decide), (by decide)⟩
  refine own_by (V := s₁.setTop (mkF m 18 #[.val (.ref o0), .val (.int (0 : Int32)), .val (.int (2 : Int32)), .val (.int (1 : Int32)), .val (.int (1 : Int32)), .unset] [(.int x1)])) (X0.iaload hx (j := (1 : Int32)) (v := (.int x1)) (by rw [e0]; exact Ar2.1) (State.isArrayOf_alike hZ.alike Ar2.2.1) Ar2.2.2 hi2 (Has.at Ha2 hi2 rfl) (g := (mkF m 17 #[.val (.ref o0), .val (.int (0 : Int32)), .val (.int (2 : Int32)), .val (.int (1 : Int32)), .val (.int (1 : Int32)), .unset] [(.int (1 : Int32)), (.ref o0)])) rfl rfl (hb hby own_d_jdk_2529_6_17)) ?_
  refine own_by (V := s₁.setTop (mkF m 20 #[.val (.ref o0), .val (.int (0 : Int32)), .val (.int (2 : Int32)), .val (.int (1 : Int32)), .val (.int (1 : Int32)), .val (.int x1)] [])) (fun t k => XS.istore X0.here hx rfl (hb hby own_d_jdk_2529_6_18) rfl (l' := #[.val (.ref o0), .val (.int (0 : Int32)), .val (.int (2 : Int32)), .val (.int (1 : Int32)), .val (.int (1 : Int32)), .val (.int x1)]) rfl k) ?_
  refine own_by (V := s₁.setTop (mkF m 22 #[.val (.ref o0), .val (.int (0 : Int32)), .val (.int (2 : Int32)), .val (.int (1 : Int32)), .val (.int (1 : Int32)), .val (.int x1)] [(.int x1)])) (fun t k => XS.iload X0.here hx rfl (hb hby own_d_jdk_2529_6_20) rfl  k) ?_
  refine own_by (V := s₁.setTop (mkF m 23 #[.val (.ref o0), .val (.int (0 : Int32)), .val (.int (2 : Int32)), .val (.int (1 : Int32)), .val (.int (1 : Int32)), .val (.int x1)] [(.ref o0), (.int x1)])) (fun t k => XS.aloadN X0.here hx rfl (hb hby own_d_jdk_2529_6_22) rfl rfl k) ?_
  refine own_by (V := s₁.setTop (mkF m 24 #[.val (.ref o0), .val (.int (0 : Int32)), .val (.int (2 : Int32)), .val (.int (1 : Int32)), .val (.int (1 : Int32)), .val (.int x1)] [(.int (1 : Int32)), (.ref o0), (.int x1)])) (fun t k => XS.iloadN X0.here hx rfl (hb hby own_d_jdk_2529_6_23) rfl  k) ?_
  refine own_by (V := s₁.setTop (mkF m 25 #[.val (.ref o0), .val (.int (0 : Int32)), .val (.int (2 : Int32)), .val (.int (1 : Int32)), .val (.int (1 : Int32)), .val (.int x1)] [(.int (1 : Int32)), (.int (1 : Int32)), (.ref o0), (.int x1)])) (fun t k => XS.iconst X0.here hx rfl (hb hby own_d_jdk_2529_6_24) k) ?_
  refine own_by (V := s₁.setTop (mkF m 26 #[.val (.ref o0), .val (.int (0 : Int32)), .val (.int (2 : Int32)), .val (.int (1 : Int32)), .val (.int (1 : Int32)), .val (.int x1)] [(.int (0 : Int32)), (.ref o0), (.int x1)])) (fun t k => XS.isub X0.here hx rfl (hb hby own_d_jdk_2529_6_25) rfl k) ?_
  obtain ⟨cl3, Ar3, qa3, Sa3, Ma3, Ha3, Ua3⟩ := id A0
  have hi3 := inb_of Sa3 (j := (0 : Int32)) ⟨(by decide), (by decide)⟩
  refine own_by (V := s₁.setTop (mkF m 27 #[.val (.ref o0), .val (.int (0 : Int32)), .val (.int (2 : Int32)), .val (.int (1 : Int32)), .val (.int (1 : Int32)), .val (.int x1)] [(.int x0), (.int x1)])) (X0.iaload hx (j := (0 : Int32)) (v := (.int x0)) (by rw [e0]; exact Ar3.1) (State.isArrayOf_alike hZ.alike Ar3.2.1) Ar3.2.2 hi3 (Has.at Ha3 hi3 rfl) (g := (mkF m 26 #[.val (.ref o0), .val (.int (0 : Int32)), .val (.int (2 : Int32)), .val (.int (1 : Int32)), .val (.int (1 : Int32)), .val (.int x1)] [(.int (0 : Int32)), (.ref o0), (.int x1)])) rfl rfl (hb hby own_d_jdk_2529_6_26)) ?_
  by_cases hb27_4 : x1 < x0
  · refine own_by (V := s₁.setTop (mkF m 30 #[.val (.ref o0), .val (.int (0 : Int32)), .val (.int (2 : Int32)), .val (.int (1 : Int32)), .val (.int (1 : Int32)), .val (.int x1)] [])) (fun t k => XS.icmpNo X0.here hx rfl (hb hby own_d_jdk_2529_6_27) rfl (tlt hb27_4).2.1 k) ?_
    refine own_by (V := s₁.setTop (mkF m 33 #[.val (.ref o0), .val (.int (0 : Int32)), .val (.int (2 : Int32)), .val (.int (0 : Int32)), .val (.int (1 : Int32)), .val (.int x1)] [])) (fun t k => XS.iinc X0.here hx rfl (hb hby own_d_jdk_2529_6_30) rfl (l' := #[.val (.ref o0), .val (.int (0 : Int32)), .val (.int (2 : Int32)), .val (.int (0 : Int32)), .val (.int (1 : Int32)), .val (.int x1)]) rfl k) ?_
    refine own_by (V := s₁.setTop (mkF m 34 #[.val (.ref o0), .val (.int (0 : Int32)), .val (.int (2 : Int32)), .val (.int (0 : Int32)), .val (.int (1 : Int32)), .val (.int x1)] [(.int (0 : Int32))])) (fun t k => XS.iloadN X0.here hx rfl (hb hby own_d_jdk_2529_6_33) rfl  k) ?_
    refine own_by (V := s₁.setTop (mkF m 35 #[.val (.ref o0), .val (.int (0 : Int32)), .val (.int (2 : Int32)), .val (.int (0 : Int32)), .val (.int (1 : Int32)), .val (.int x1)] [(.int (0 : Int32)), (.int (0 : Int32))])) (fun t k => XS.iloadN X0.here hx rfl (hb hby own_d_jdk_2529_6_34) rfl  k) ?_
    have hb35_5 : ¬ ((0 : Int32) < (0 : Int32)) := by decide
    refine own_by (V := s₁.setTop (mkF m 38 #[.val (.ref o0), .val (.int (0 : Int32)), .val (.int (2 : Int32)), .val (.int (0 : Int32)), .val (.int (1 : Int32)), .val (.int x1)] [])) (fun t k => XS.icmpNo X0.here hx rfl (hb hby own_d_jdk_2529_6_35) rfl (flt hb35_5).1 k) ?_
    refine own_by (V := s₁.setTop (mkF m 40 #[.val (.ref o0), .val (.int (0 : Int32)), .val (.int (2 : Int32)), .val (.int (0 : Int32)), .val (.int (1 : Int32)), .val (.int x1)] [(.int x1)])) (fun t k => XS.iload X0.here hx rfl (hb hby own_d_jdk_2529_6_38) rfl  k) ?_
    refine own_by (V := s₁.setTop (mkF m 41 #[.val (.ref o0), .val (.int (0 : Int32)), .val (.int (2 : Int32)), .val (.int (0 : Int32)), .val (.int (1 : Int32)), .val (.int x1)] [(.ref o0), (.int x1)])) (fun t k => XS.aloadN X0.here hx rfl (hb hby own_d_jdk_2529_6_40) rfl rfl k) ?_
    refine own_by (V := s₁.setTop (mkF m 42 #[.val (.ref o0), .val (.int (0 : Int32)), .val (.int (2 : Int32)), .val (.int (0 : Int32)), .val (.int (1 : Int32)), .val (.int x1)] [(.int (0 : Int32)), (.ref o0), (.int x1)])) (fun t k => XS.iloadN X0.here hx rfl (hb hby own_d_jdk_2529_6_41) rfl  k) ?_
    obtain ⟨cl6, Ar6, qa6, Sa6, Ma6, Ha6, Ua6⟩ := id A0
    have hi6 := inb_of Sa6 (j := (0 : Int32)) ⟨(by decide), (by decide)⟩
    refine own_by (V := s₁.setTop (mkF m 43 #[.val (.ref o0), .val (.int (0 : Int32)), .val (.int (2 : Int32)), .val (.int (0 : Int32)), .val (.int (1 : Int32)), .val (.int x1)] [(.int x0), (.int x1)])) (X0.iaload hx (j := (0 : Int32)) (v := (.int x0)) (by rw [e0]; exact Ar6.1) (State.isArrayOf_alike hZ.alike Ar6.2.1) Ar6.2.2 hi6 (Has.at Ha6 hi6 rfl) (g := (mkF m 42 #[.val (.ref o0), .val (.int (0 : Int32)), .val (.int (2 : Int32)), .val (.int (0 : Int32)), .val (.int (1 : Int32)), .val (.int x1)] [(.int (0 : Int32)), (.ref o0), (.int x1)])) rfl rfl (hb hby own_d_jdk_2529_6_42)) ?_
    by_cases hb43_7 : x1 < x0
    · refine own_by (V := s₁.setTop (mkF m 46 #[.val (.ref o0), .val (.int (0 : Int32)), .val (.int (2 : Int32)), .val (.int (0 : Int32)), .val (.int (1 : Int32)), .val (.int x1)] [])) (fun t k => XS.icmpNo X0.here hx rfl (hb hby own_d_jdk_2529_6_43) rfl (tlt hb43_7).2.1 k) ?_
      refine own_by (V := s₁.setTop (mkF m 47 #[.val (.ref o0), .val (.int (0 : Int32)), .val (.int (2 : Int32)), .val (.int (0 : Int32)), .val (.int (1 : Int32)), .val (.int x1)] [(.ref o0)])) (fun t k => XS.aloadN X0.here hx rfl (hb hby own_d_jdk_2529_6_46) rfl rfl k) ?_
      refine own_by (V := s₁.setTop (mkF m 48 #[.val (.ref o0), .val (.int (0 : Int32)), .val (.int (2 : Int32)), .val (.int (0 : Int32)), .val (.int (1 : Int32)), .val (.int x1)] [(.int (0 : Int32)), (.ref o0)])) (fun t k => XS.iloadN X0.here hx rfl (hb hby own_d_jdk_2529_6_47) rfl  k) ?_
      refine own_by (V := s₁.setTop (mkF m 49 #[.val (.ref o0), .val (.int (0 : Int32)), .val (.int (2 : Int32)), .val (.int (0 : Int32)), .val (.int (1 : Int32)), .val (.int x1)] [(.int (1 : Int32)), (.int (0 : Int32)), (.ref o0)])) (fun t k => XS.iconst X0.here hx rfl (hb hby own_d_jdk_2529_6_48) k) ?_
      refine own_by (V := s₁.setTop (mkF m 50 #[.val (.ref o0), .val (.int (0 : Int32)), .val (.int (2 : Int32)), .val (.int (0 : Int32)), .val (.int (1 : Int32)), .val (.int x1)] [(.int (1 : Int32)), (.ref o0)])) (fun t k => XS.iadd X0.here hx rfl (hb hby own_d_jdk_2529_6_49) rfl k) ?_
      refine own_by (V := s₁.setTop (mkF m 51 #[.val (.ref o0), .val (.int (0 : Int32)), .val (.int (2 : Int32)), .val (.int (0 : Int32)), .val (.int (1 : Int32)), .val (.int x1)] [(.ref o0), (.int (1 : Int32)), (.ref o0)])) (fun t k => XS.aloadN X0.here hx rfl (hb hby own_d_jdk_2529_6_50) rfl rfl k) ?_
      refine own_by (V := s₁.setTop (mkF m 52 #[.val (.ref o0), .val (.int (0 : Int32)), .val (.int (2 : Int32)), .val (.int (0 : Int32)), .val (.int (1 : Int32)), .val (.int x1)] [(.int (0 : Int32)), (.ref o0), (.int (1 : Int32)), (.ref o0)])) (fun t k => XS.iloadN X0.here hx rfl (hb hby own_d_jdk_2529_6_51) rfl  k) ?_
      obtain ⟨cl8, Ar8, qa8, Sa8, Ma8, Ha8, Ua8⟩ := id A0
      have hi8 := inb_of Sa8 (j := (0 : Int32)) ⟨(by decide), (by decide)⟩
      refine own_by (V := s₁.setTop (mkF m 53 #[.val (.ref o0), .val (.int (0 : Int32)), .val (.int (2 : Int32)), .val (.int (0 : Int32)), .val (.int (1 : Int32)), .val (.int x1)] [(.int x0), (.int (1 : Int32)), (.ref o0)])) (X0.iaload hx (j := (0 : Int32)) (v := (.int x0)) (by rw [e0]; exact Ar8.1) (State.isArrayOf_alike hZ.alike Ar8.2.1) Ar8.2.2 hi8 (Has.at Ha8 hi8 rfl) (g := (mkF m 52 #[.val (.ref o0), .val (.int (0 : Int32)), .val (.int (2 : Int32)), .val (.int (0 : Int32)), .val (.int (1 : Int32)), .val (.int x1)] [(.int (0 : Int32)), (.ref o0), (.int (1 : Int32)), (.ref o0)])) rfl rfl (hb hby own_d_jdk_2529_6_52)) ?_
      obtain ⟨cl9, Ar9, qa9, Sa9, Ma9, Ha9, Ua9⟩ := id A0
      obtain ⟨T10, h10, X10, e10, W10, st10⟩ := stI X0 hx hZ e0 Ar9 (j := (1 : Int32)) (inb_of Sa9 ⟨(by decide), (by decide)⟩) (g := (mkF m 53 #[.val (.ref o0), .val (.int (0 : Int32)), .val (.int (2 : Int32)), .val (.int (0 : Int32)), .val (.int (1 : Int32)), .val (.int x1)] [(.int x0), (.int (1 : Int32)), (.ref o0)])) rfl rfl (hb hby own_d_jdk_2529_6_53)
      have N10 := Fr.snoc X10 N0 g0
      have K10 := (Keep.refl h0 [o0]).wr W10 (Or.inl (List.mem_of_getElem? (i := 0) rfl))
      have Zs10 : n0 ≤ h10.size := by rw [W10.size]; exact Z0
      have V10 : Arv Z h10 o0 kb .int (2 : Int32) [(.int x0), (.int x0)] (.int (0 : Int32)) := Arv.set Ar9 qa9 Sa9 Ma9 Ha9 Ua9 rfl W10 1 (by decide) (by simp)
      refine own_by (V := T10.setTop (mkF m 54 #[.val (.ref o0), .val (.int (0 : Int32)), .val (.int (2 : Int32)), .val (.int (0 : Int32)), .val (.int (1 : Int32)), .val (.int x1)] [])) st10 ?_
      refine own_by (V := T10.setTop (mkF m 30 #[.val (.ref o0), .val (.int (0 : Int32)), .val (.int (2 : Int32)), .val (.int (0 : Int32)), .val (.int (1 : Int32)), .val (.int x1)] [])) (fun t k => XS.goto X10.here hx rfl (pc0 := 54) (pc' := 30) rfl (hb hby own_d_jdk_2529_6_54) (by decide) (by decide) k) ?_
      refine own_by (V := T10.setTop (mkF m 33 #[.val (.ref o0), .val (.int (0 : Int32)), .val (.int (2 : Int32)), .val (.int (-1 : Int32)), .val (.int (1 : Int32)), .val (.int x1)] [])) (fun t k => XS.iinc X10.here hx rfl (hb hby own_d_jdk_2529_6_30) rfl (l' := #[.val (.ref o0), .val (.int (0 : Int32)), .val (.int (2 : Int32)), .val (.int (-1 : Int32)), .val (.int (1 : Int32)), .val (.int x1)]) rfl k) ?_
      refine own_by (V := T10.setTop (mkF m 34 #[.val (.ref o0), .val (.int (0 : Int32)), .val (.int (2 : Int32)), .val (.int (-1 : Int32)), .val (.int (1 : Int32)), .val (.int x1)] [(.int (-1 : Int32))])) (fun t k => XS.iloadN X10.here hx rfl (hb hby own_d_jdk_2529_6_33) rfl  k) ?_
      refine own_by (V := T10.setTop (mkF m 35 #[.val (.ref o0), .val (.int (0 : Int32)), .val (.int (2 : Int32)), .val (.int (-1 : Int32)), .val (.int (1 : Int32)), .val (.int x1)] [(.int (0 : Int32)), (.int (-1 : Int32))])) (fun t k => XS.iloadN X10.here hx rfl (hb hby own_d_jdk_2529_6_34) rfl  k) ?_
      have hb35_11 : ((-1 : Int32) < (0 : Int32)) := by decide
      refine own_by (V := T10.setTop (mkF m 57 #[.val (.ref o0), .val (.int (0 : Int32)), .val (.int (2 : Int32)), .val (.int (-1 : Int32)), .val (.int (1 : Int32)), .val (.int x1)] [])) (fun t k => XS.icmpYes X10.here hx rfl (pc0 := 35) (pc' := 57) rfl (hb hby own_d_jdk_2529_6_35) rfl (tlt hb35_11).1 (by decide) (by decide) k) ?_
      refine own_by (V := T10.setTop (mkF m 58 #[.val (.ref o0), .val (.int (0 : Int32)), .val (.int (2 : Int32)), .val (.int (-1 : Int32)), .val (.int (1 : Int32)), .val (.int x1)] [(.ref o0)])) (fun t k => XS.aloadN X10.here hx rfl (hb hby own_d_jdk_2529_6_57) rfl rfl k) ?_
      refine own_by (V := T10.setTop (mkF m 59 #[.val (.ref o0), .val (.int (0 : Int32)), .val (.int (2 : Int32)), .val (.int (-1 : Int32)), .val (.int (1 : Int32)), .val (.int x1)] [(.int (-1 : Int32)), (.ref o0)])) (fun t k => XS.iloadN X10.here hx rfl (hb hby own_d_jdk_2529_6_58) rfl  k) ?_
      refine own_by (V := T10.setTop (mkF m 60 #[.val (.ref o0), .val (.int (0 : Int32)), .val (.int (2 : Int32)), .val (.int (-1 : Int32)), .val (.int (1 : Int32)), .val (.int x1)] [(.int (1 : Int32)), (.int (-1 : Int32)), (.ref o0)])) (fun t k => XS.iconst X10.here hx rfl (hb hby own_d_jdk_2529_6_59) k) ?_
      refine own_by (V := T10.setTop (mkF m 61 #[.val (.ref o0), .val (.int (0 : Int32)), .val (.int (2 : Int32)), .val (.int (-1 : Int32)), .val (.int (1 : Int32)), .val (.int x1)] [(.int (0 : Int32)), (.ref o0)])) (fun t k => XS.iadd X10.here hx rfl (hb hby own_d_jdk_2529_6_60) rfl k) ?_
      refine own_by (V := T10.setTop (mkF m 63 #[.val (.ref o0), .val (.int (0 : Int32)), .val (.int (2 : Int32)), .val (.int (-1 : Int32)), .val (.int (1 : Int32)), .val (.int x1)] [(.int x1), (.int (0 : Int32)), (.ref o0)])) (fun t k => XS.iload X10.here hx rfl (hb hby own_d_jdk_2529_6_61) rfl  k) ?_
      obtain ⟨cl12, Ar12, qa12, Sa12, Ma12, Ha12, Ua12⟩ := id V10
      obtain ⟨T13, h13, X13, e13, W13, st13⟩ := stI X10 hx hZ e10 Ar12 (j := (0 : Int32)) (inb_of Sa12 ⟨(by decide), (by decide)⟩) (g := (mkF m 63 #[.val (.ref o0), .val (.int (0 : Int32)), .val (.int (2 : Int32)), .val (.int (-1 : Int32)), .val (.int (1 : Int32)), .val (.int x1)] [(.int x1), (.int (0 : Int32)), (.ref o0)])) rfl rfl (hb hby own_d_jdk_2529_6_63)
      have N13 := Fr.snoc X13 N10 g0
      have K13 := K10.wr W13 (Or.inl (List.mem_of_getElem? (i := 0) rfl))
      have Zs13 : n0 ≤ h13.size := by rw [W13.size]; exact Zs10
      have V13 : Arv Z h13 o0 kb .int (2 : Int32) [(.int x1), (.int x0)] (.int (0 : Int32)) := Arv.set Ar12 qa12 Sa12 Ma12 Ha12 Ua12 rfl W13 0 (by decide) (by simp)
      refine own_by (V := T13.setTop (mkF m 64 #[.val (.ref o0), .val (.int (0 : Int32)), .val (.int (2 : Int32)), .val (.int (-1 : Int32)), .val (.int (1 : Int32)), .val (.int x1)] [])) st13 ?_
      refine own_by (V := T13.setTop (mkF m 3 #[.val (.ref o0), .val (.int (0 : Int32)), .val (.int (2 : Int32)), .val (.int (-1 : Int32)), .val (.int (1 : Int32)), .val (.int x1)] [])) (fun t k => XS.goto X13.here hx rfl (pc0 := 64) (pc' := 3) rfl (hb hby own_d_jdk_2529_6_64) (by decide) (by decide) k) ?_
      refine own_by (V := T13.setTop (mkF m 6 #[.val (.ref o0), .val (.int (0 : Int32)), .val (.int (2 : Int32)), .val (.int (-1 : Int32)), .val (.int (2 : Int32)), .val (.int x1)] [])) (fun t k => XS.iinc X13.here hx rfl (hb hby own_d_jdk_2529_6_3) rfl (l' := #[.val (.ref o0), .val (.int (0 : Int32)), .val (.int (2 : Int32)), .val (.int (-1 : Int32)), .val (.int (2 : Int32)), .val (.int x1)]) rfl k) ?_
      refine own_by (V := T13.setTop (mkF m 8 #[.val (.ref o0), .val (.int (0 : Int32)), .val (.int (2 : Int32)), .val (.int (-1 : Int32)), .val (.int (2 : Int32)), .val (.int x1)] [(.int (2 : Int32))])) (fun t k => XS.iload X13.here hx rfl (hb hby own_d_jdk_2529_6_6) rfl  k) ?_
      refine own_by (V := T13.setTop (mkF m 9 #[.val (.ref o0), .val (.int (0 : Int32)), .val (.int (2 : Int32)), .val (.int (-1 : Int32)), .val (.int (2 : Int32)), .val (.int x1)] [(.int (2 : Int32)), (.int (2 : Int32))])) (fun t k => XS.iloadN X13.here hx rfl (hb hby own_d_jdk_2529_6_8) rfl  k) ?_
      have hb9_14 : ¬ ((2 : Int32) < (2 : Int32)) := by decide
      refine own_by (V := T13.setTop (mkF m 67 #[.val (.ref o0), .val (.int (0 : Int32)), .val (.int (2 : Int32)), .val (.int (-1 : Int32)), .val (.int (2 : Int32)), .val (.int x1)] [])) (fun t k => XS.icmpYes X13.here hx rfl (pc0 := 9) (pc' := 67) rfl (hb hby own_d_jdk_2529_6_9) rfl (flt hb9_14).2.1 (by decide) (by decide) k) ?_
      refine own_ret0 X13 hx hlk e13 Bd.returns (hb hby own_d_jdk_2529_6_67) ?_ (by decide) (by decide)
      exact ⟨rfl, N13, K13, (by have q := own_s2_10 x0 x1 (by (try rw [Int32.lt_iff_toInt_lt] at hb9_1); (try rw [Int32.lt_iff_toInt_lt] at hb27_4); (try rw [Int32.lt_iff_toInt_lt] at hb35_5); (try rw [Int32.lt_iff_toInt_lt] at hb43_7); (try rw [Int32.lt_iff_toInt_lt] at hb35_11); (try rw [Int32.lt_iff_toInt_lt] at hb9_14); rw [Int32.lt_iff_toInt_lt]; omega); rw [q.1, q.2]; exact V13)⟩
    · refine own_by (V := s₁.setTop (mkF m 57 #[.val (.ref o0), .val (.int (0 : Int32)), .val (.int (2 : Int32)), .val (.int (0 : Int32)), .val (.int (1 : Int32)), .val (.int x1)] [])) (fun t k => XS.icmpYes X0.here hx rfl (pc0 := 43) (pc' := 57) rfl (hb hby own_d_jdk_2529_6_43) rfl (flt hb43_7).2.1 (by decide) (by decide) k) ?_
      refine own_by (V := s₁.setTop (mkF m 58 #[.val (.ref o0), .val (.int (0 : Int32)), .val (.int (2 : Int32)), .val (.int (0 : Int32)), .val (.int (1 : Int32)), .val (.int x1)] [(.ref o0)])) (fun t k => XS.aloadN X0.here hx rfl (hb hby own_d_jdk_2529_6_57) rfl rfl k) ?_
      refine own_by (V := s₁.setTop (mkF m 59 #[.val (.ref o0), .val (.int (0 : Int32)), .val (.int (2 : Int32)), .val (.int (0 : Int32)), .val (.int (1 : Int32)), .val (.int x1)] [(.int (0 : Int32)), (.ref o0)])) (fun t k => XS.iloadN X0.here hx rfl (hb hby own_d_jdk_2529_6_58) rfl  k) ?_
      refine own_by (V := s₁.setTop (mkF m 60 #[.val (.ref o0), .val (.int (0 : Int32)), .val (.int (2 : Int32)), .val (.int (0 : Int32)), .val (.int (1 : Int32)), .val (.int x1)] [(.int (1 : Int32)), (.int (0 : Int32)), (.ref o0)])) (fun t k => XS.iconst X0.here hx rfl (hb hby own_d_jdk_2529_6_59) k) ?_
      refine own_by (V := s₁.setTop (mkF m 61 #[.val (.ref o0), .val (.int (0 : Int32)), .val (.int (2 : Int32)), .val (.int (0 : Int32)), .val (.int (1 : Int32)), .val (.int x1)] [(.int (1 : Int32)), (.ref o0)])) (fun t k => XS.iadd X0.here hx rfl (hb hby own_d_jdk_2529_6_60) rfl k) ?_
      refine own_by (V := s₁.setTop (mkF m 63 #[.val (.ref o0), .val (.int (0 : Int32)), .val (.int (2 : Int32)), .val (.int (0 : Int32)), .val (.int (1 : Int32)), .val (.int x1)] [(.int x1), (.int (1 : Int32)), (.ref o0)])) (fun t k => XS.iload X0.here hx rfl (hb hby own_d_jdk_2529_6_61) rfl  k) ?_
      obtain ⟨cl15, Ar15, qa15, Sa15, Ma15, Ha15, Ua15⟩ := id A0
      obtain ⟨T16, h16, X16, e16, W16, st16⟩ := stI X0 hx hZ e0 Ar15 (j := (1 : Int32)) (inb_of Sa15 ⟨(by decide), (by decide)⟩) (g := (mkF m 63 #[.val (.ref o0), .val (.int (0 : Int32)), .val (.int (2 : Int32)), .val (.int (0 : Int32)), .val (.int (1 : Int32)), .val (.int x1)] [(.int x1), (.int (1 : Int32)), (.ref o0)])) rfl rfl (hb hby own_d_jdk_2529_6_63)
      have N16 := Fr.snoc X16 N0 g0
      have K16 := (Keep.refl h0 [o0]).wr W16 (Or.inl (List.mem_of_getElem? (i := 0) rfl))
      have Zs16 : n0 ≤ h16.size := by rw [W16.size]; exact Z0
      have V16 : Arv Z h16 o0 kb .int (2 : Int32) [(.int x0), (.int x1)] (.int (0 : Int32)) := Arv.set Ar15 qa15 Sa15 Ma15 Ha15 Ua15 rfl W16 1 (by decide) (by simp)
      refine own_by (V := T16.setTop (mkF m 64 #[.val (.ref o0), .val (.int (0 : Int32)), .val (.int (2 : Int32)), .val (.int (0 : Int32)), .val (.int (1 : Int32)), .val (.int x1)] [])) st16 ?_
      refine own_by (V := T16.setTop (mkF m 3 #[.val (.ref o0), .val (.int (0 : Int32)), .val (.int (2 : Int32)), .val (.int (0 : Int32)), .val (.int (1 : Int32)), .val (.int x1)] [])) (fun t k => XS.goto X16.here hx rfl (pc0 := 64) (pc' := 3) rfl (hb hby own_d_jdk_2529_6_64) (by decide) (by decide) k) ?_
      refine own_by (V := T16.setTop (mkF m 6 #[.val (.ref o0), .val (.int (0 : Int32)), .val (.int (2 : Int32)), .val (.int (0 : Int32)), .val (.int (2 : Int32)), .val (.int x1)] [])) (fun t k => XS.iinc X16.here hx rfl (hb hby own_d_jdk_2529_6_3) rfl (l' := #[.val (.ref o0), .val (.int (0 : Int32)), .val (.int (2 : Int32)), .val (.int (0 : Int32)), .val (.int (2 : Int32)), .val (.int x1)]) rfl k) ?_
      refine own_by (V := T16.setTop (mkF m 8 #[.val (.ref o0), .val (.int (0 : Int32)), .val (.int (2 : Int32)), .val (.int (0 : Int32)), .val (.int (2 : Int32)), .val (.int x1)] [(.int (2 : Int32))])) (fun t k => XS.iload X16.here hx rfl (hb hby own_d_jdk_2529_6_6) rfl  k) ?_
      refine own_by (V := T16.setTop (mkF m 9 #[.val (.ref o0), .val (.int (0 : Int32)), .val (.int (2 : Int32)), .val (.int (0 : Int32)), .val (.int (2 : Int32)), .val (.int x1)] [(.int (2 : Int32)), (.int (2 : Int32))])) (fun t k => XS.iloadN X16.here hx rfl (hb hby own_d_jdk_2529_6_8) rfl  k) ?_
      have hb9_17 : ¬ ((2 : Int32) < (2 : Int32)) := by decide
      refine own_by (V := T16.setTop (mkF m 67 #[.val (.ref o0), .val (.int (0 : Int32)), .val (.int (2 : Int32)), .val (.int (0 : Int32)), .val (.int (2 : Int32)), .val (.int x1)] [])) (fun t k => XS.icmpYes X16.here hx rfl (pc0 := 9) (pc' := 67) rfl (hb hby own_d_jdk_2529_6_9) rfl (flt hb9_17).2.1 (by decide) (by decide) k) ?_
      refine own_ret0 X16 hx hlk e16 Bd.returns (hb hby own_d_jdk_2529_6_67) ?_ (by decide) (by decide)
      exact ⟨rfl, N16, K16, (by have q := own_s2_01 x0 x1 (by (try rw [Int32.lt_iff_toInt_lt] at hb9_1); (try rw [Int32.lt_iff_toInt_lt] at hb27_4); (try rw [Int32.lt_iff_toInt_lt] at hb35_5); (try rw [Int32.lt_iff_toInt_lt] at hb43_7); (try rw [Int32.lt_iff_toInt_lt] at hb9_17); rw [Int32.lt_iff_toInt_lt]; omega); rw [q.1, q.2]; exact V16)⟩
  · refine own_by (V := s₁.setTop (mkF m 64 #[.val (.ref o0), .val (.int (0 : Int32)), .val (.int (2 : Int32)), .val (.int (1 : Int32)), .val (.int (1 : Int32)), .val (.int x1)] [])) (fun t k => XS.icmpYes X0.here hx rfl (pc0 := 27) (pc' := 64) rfl (hb hby own_d_jdk_2529_6_27) rfl (flt hb27_4).2.1 (by decide) (by decide) k) ?_
    refine own_by (V := s₁.setTop (mkF m 3 #[.val (.ref o0), .val (.int (0 : Int32)), .val (.int (2 : Int32)), .val (.int (1 : Int32)), .val (.int (1 : Int32)), .val (.int x1)] [])) (fun t k => XS.goto X0.here hx rfl (pc0 := 64) (pc' := 3) rfl (hb hby own_d_jdk_2529_6_64) (by decide) (by decide) k) ?_
    refine own_by (V := s₁.setTop (mkF m 6 #[.val (.ref o0), .val (.int (0 : Int32)), .val (.int (2 : Int32)), .val (.int (1 : Int32)), .val (.int (2 : Int32)), .val (.int x1)] [])) (fun t k => XS.iinc X0.here hx rfl (hb hby own_d_jdk_2529_6_3) rfl (l' := #[.val (.ref o0), .val (.int (0 : Int32)), .val (.int (2 : Int32)), .val (.int (1 : Int32)), .val (.int (2 : Int32)), .val (.int x1)]) rfl k) ?_
    refine own_by (V := s₁.setTop (mkF m 8 #[.val (.ref o0), .val (.int (0 : Int32)), .val (.int (2 : Int32)), .val (.int (1 : Int32)), .val (.int (2 : Int32)), .val (.int x1)] [(.int (2 : Int32))])) (fun t k => XS.iload X0.here hx rfl (hb hby own_d_jdk_2529_6_6) rfl  k) ?_
    refine own_by (V := s₁.setTop (mkF m 9 #[.val (.ref o0), .val (.int (0 : Int32)), .val (.int (2 : Int32)), .val (.int (1 : Int32)), .val (.int (2 : Int32)), .val (.int x1)] [(.int (2 : Int32)), (.int (2 : Int32))])) (fun t k => XS.iloadN X0.here hx rfl (hb hby own_d_jdk_2529_6_8) rfl  k) ?_
    have hb9_18 : ¬ ((2 : Int32) < (2 : Int32)) := by decide
    refine own_by (V := s₁.setTop (mkF m 67 #[.val (.ref o0), .val (.int (0 : Int32)), .val (.int (2 : Int32)), .val (.int (1 : Int32)), .val (.int (2 : Int32)), .val (.int x1)] [])) (fun t k => XS.icmpYes X0.here hx rfl (pc0 := 9) (pc' := 67) rfl (hb hby own_d_jdk_2529_6_9) rfl (flt hb9_18).2.1 (by decide) (by decide) k) ?_
    refine own_ret0 X0 hx hlk e0 Bd.returns (hb hby own_d_jdk_2529_6_67) ?_ (by decide) (by decide)
    exact ⟨rfl, N0, (Keep.refl h0 [o0]), (by have q := own_s2_01 x0 x1 (by (try rw [Int32.lt_iff_toInt_lt] at hb9_1); (try rw [Int32.lt_iff_toInt_lt] at hb27_4); (try rw [Int32.lt_iff_toInt_lt] at hb9_18); rw [Int32.lt_iff_toInt_lt]; omega); rw [q.1, q.2]; exact A0)⟩
def own_Q_own_dq2_2 (Z : State) (o1 : Addr) (kb : ClassId) (x0 : Int32) (x1 : Int32) (h0 : Heap) (n0 : Nat) : Option Value → Heap → List Loc → Prop := fun v h L => v = none ∧ Fr n0 L ∧ Keep h0 h [o1] ∧ Arv Z h o1 kb .int (2 : Int32) [(.int (own_min x0 x1)), (.int (own_max x0 x1))] (.int (0 : Int32))
theorem own_ef_own_dq2_2 (m : MethodId) (x1 : Addr) : entryFrame m #[.null, (.ref x1), (.int (0 : Int32)), (.int (0 : Int32)), (.int (2 : Int32))] 21 = mkF m 0 #[.val .null, .val (.ref x1), .val (.int (0 : Int32)), .val (.int (0 : Int32)), .val (.int (2 : Int32)), .unset, .unset, .unset, .unset, .unset, .unset, .unset, .unset, .unset, .unset, .unset, .unset, .unset, .unset, .unset, .unset] [] := by first | (simp [entryFrame, mkF, argsToLocals, Value.category]; done) | rfl
set_option maxRecDepth 65536 in
set_option maxHeartbeats 40000000 in
theorem own_dq2_2 (l : Launch) (Z : State) (a0 : Array Value) (hw : ∀ d ∈ tables_1, d.before a0 Z = true) (ws : List Jvm.Cond) (o1 : Addr) (kb : ClassId) (x0 : Int32) (x1 : Int32) (h0 : Heap) (n0 : Nat) (Z0 : n0 ≤ h0.size) (A0 : Arv Z h0 o1 kb .int (2 : Int32) [(.int x0), (.int x1)] (.int (0 : Int32))) (g0 : n0 ≤ o1) :
    MetFree l (⟨"java/util/DualPivotQuicksort", "sort", "(Ljava/util/DualPivotQuicksort$Sorter;[IIII)V"⟩ : MethodName) (head1 (Jvm.Cond.code (⟨"java/util/DualPivotQuicksort", "sort", "(Ljava/util/DualPivotQuicksort$Sorter;[IIII)V"⟩ : MethodName) jdk_2529_method_4_code 21 none :: ws) ({ frames := 1, cells := 0, slots := 0, locals := 17 } : Room)) (fun a U => a = #[.null, (.ref o1), (.int (0 : Int32)), (.int (0 : Int32)), (.int (2 : Int32))] ∧ Z.Warmed39 U.vm ∧ U.heap = h0) (fun _ _ _ _ _ => True) (fun _ U o U' => ∃ v L, o = .returned v ∧ (own_Q_own_dq2_2 Z o1 kb x0 x1 h0 n0) v U'.heap L ∧ FrameEnd U o U' L ({ frames := 1, cells := 0, slots := 0, locals := 17 } : Room).cells ({ frames := 1, cells := 0, slots := 0, locals := 17 } : Room).slots) := by
  refine MetFree.of_bodySF (plainFor_of_name own_pn1) hisR ?_
  intro p e s m args below meth c s₁ Bd hml0 hP hK
  obtain ⟨rfl, hZ, hh⟩ := hP
  have hx := Bd.exec
  have hby := Bd.bytes
  have hml : c.maxLocals = 21 := hml0
  have hown : s.vm.findClass "java/util/DualPivotQuicksort" = some m.cls := findClass_of_methodNamed Bd.named
  have hnm := (name_of_methodNamed Bd.named Bd.method).1
  have hlk : meth.locks = false := BodyLoose.notSynchronized Bd
  have X0 : Stand p l e ({ frames := 1, cells := 0, slots := 0, locals := 17 } : Room) s m #[.null, (.ref o1), (.int (0 : Int32)), (.int (0 : Int32)), (.int (2 : Int32))] below meth c s₁ [] 0 0 := Stand.of_body Bd
  have e0 : s₁.heap = h0 := by rw [← hh, Bd.state]; rfl
  have N0 := Fr.nil n0
  show own_Ends p e below s (own_Q_own_dq2_2 Z o1 kb x0 x1 h0 n0) ({ frames := 1, cells := 0, slots := 0, locals := 17 } : Room).cells ({ frames := 1, cells := 0, slots := 0, locals := 17 } : Room).slots _
  refine own_by (V := s₁.setTop (mkF m 0 #[.val .null, .val (.ref o1), .val (.int (0 : Int32)), .val (.int (0 : Int32)), .val (.int (2 : Int32)), .unset, .unset, .unset, .unset, .unset, .unset, .unset, .unset, .unset, .unset, .unset, .unset, .unset, .unset, .unset, .unset] [])) (fun t k => castTop (own_ef_own_dq2_2 m o1) k) ?_
  refine own_by (V := s₁.setTop (mkF m 2 #[.val .null, .val (.ref o1), .val (.int (0 : Int32)), .val (.int (0 : Int32)), .val (.int (2 : Int32)), .unset, .unset, .unset, .unset, .unset, .unset, .unset, .unset, .unset, .unset, .unset, .unset, .unset, .unset, .unset, .unset] [(.int (2 : Int32))])) (fun t k => XS.iload X0.here hx rfl (hb hby own_d_jdk_2529_4_0) rfl  k) ?_
  refine own_by (V := s₁.setTop (mkF m 3 #[.val .null, .val (.ref o1), .val (.int (0 : Int32)), .val (.int (0 : Int32)), .val (.int (2 : Int32)), .unset, .unset, .unset, .unset, .unset, .unset, .unset, .unset, .unset, .unset, .unset, .unset, .unset, .unset, .unset, .unset] [(.int (1 : Int32)), (.int (2 : Int32))])) (fun t k => XS.iconst X0.here hx rfl (hb hby own_d_jdk_2529_4_2) k) ?_
  refine own_by (V := s₁.setTop (mkF m 4 #[.val .null, .val (.ref o1), .val (.int (0 : Int32)), .val (.int (0 : Int32)), .val (.int (2 : Int32)), .unset, .unset, .unset, .unset, .unset, .unset, .unset, .unset, .unset, .unset, .unset, .unset, .unset, .unset, .unset, .unset] [(.int (1 : Int32))])) (fun t k => XS.isub X0.here hx rfl (hb hby own_d_jdk_2529_4_3) rfl k) ?_
  refine own_by (V := s₁.setTop (mkF m 6 #[.val .null, .val (.ref o1), .val (.int (0 : Int32)), .val (.int (0 : Int32)), .val (.int (2 : Int32)), .val (.int (1 : Int32)), .unset, .unset, .unset, .unset, .unset, .unset, .unset, .unset, .unset, .unset, .unset, .unset, .unset, .unset, .unset] [])) (fun t k => XS.istore X0.here hx rfl (hb hby own_d_jdk_2529_4_4) rfl (l' := #[.val .null, .val (.ref o1), .val (.int (0 : Int32)), .val (.int (0 : Int32)), .val (.int (2 : Int32)), .val (.int (1 : Int32)), .unset, .unset, .unset, .unset, .unset, .unset, .unset, .unset, .unset, .unset, .unset, .unset, .unset, .unset, .unset]) rfl k) ?_
  refine own_by (V := s₁.setTop (mkF m 8 #[.val .null, .val (.ref o1), .val (.int (0 : Int32)), .val (.int (0 : Int32)), .val (.int (2 : Int32)), .val (.int (1 : Int32)), .unset, .unset, .unset, .unset, .unset, .unset, .unset, .unset, .unset, .unset, .unset, .unset, .unset, .unset, .unset] [(.int (2 : Int32))])) (fun t k => XS.iload X0.here hx rfl (hb hby own_d_jdk_2529_4_6) rfl  k) ?_
  refine own_by (V := s₁.setTop (mkF m 9 #[.val .null, .val (.ref o1), .val (.int (0 : Int32)), .val (.int (0 : Int32)), .val (.int (2 : Int32)), .val (.int (1 : Int32)), .unset, .unset, .unset, .unset, .unset, .unset, .unset, .unset, .unset, .unset, .unset, .unset, .unset, .unset, .unset] [(.int (0 : Int32)), (.int (2 : Int32))])) (fun t k => XS.iloadN X0.here hx rfl (hb hby own_d_jdk_2529_4_8) rfl  k) ?_
  refine own_by (V := s₁.setTop (mkF m 10 #[.val .null, .val (.ref o1), .val (.int (0 : Int32)), .val (.int (0 : Int32)), .val (.int (2 : Int32)), .val (.int (1 : Int32)), .unset, .unset, .unset, .unset, .unset, .unset, .unset, .unset, .unset, .unset, .unset, .unset, .unset, .unset, .unset] [(.int (2 : Int32))])) (fun t k => XS.isub X0.here hx rfl (hb hby own_d_jdk_2529_4_9) rfl k) ?_
  refine own_by (V := s₁.setTop (mkF m 12 #[.val .null, .val (.ref o1), .val (.int (0 : Int32)), .val (.int (0 : Int32)), .val (.int (2 : Int32)), .val (.int (1 : Int32)), .val (.int (2 : Int32)), .unset, .unset, .unset, .unset, .unset, .unset, .unset, .unset, .unset, .unset, .unset, .unset, .unset, .unset] [])) (fun t k => XS.istore X0.here hx rfl (hb hby own_d_jdk_2529_4_10) rfl (l' := #[.val .null, .val (.ref o1), .val (.int (0 : Int32)), .val (.int (0 : Int32)), .val (.int (2 : Int32)), .val (.int (1 : Int32)), .val (.int (2 : Int32)), .unset, .unset, .unset, .unset, .unset, .unset, .unset, .unset, .unset, .unset, .unset, .unset, .unset, .unset]) rfl k) ?_
  refine own_by (V := s₁.setTop (mkF m 14 #[.val .null, .val (.ref o1), .val (.int (0 : Int32)), .val (.int (0 : Int32)), .val (.int (2 : Int32)), .val (.int (1 : Int32)), .val (.int (2 : Int32)), .unset, .unset, .unset, .unset, .unset, .unset, .unset, .unset, .unset, .unset, .unset, .unset, .unset, .unset] [(.int (2 : Int32))])) (fun t k => XS.iload X0.here hx rfl (hb hby own_d_jdk_2529_4_12) rfl  k) ?_
  refine own_by (V := s₁.setTop (mkF m 16 #[.val .null, .val (.ref o1), .val (.int (0 : Int32)), .val (.int (0 : Int32)), .val (.int (2 : Int32)), .val (.int (1 : Int32)), .val (.int (2 : Int32)), .unset, .unset, .unset, .unset, .unset, .unset, .unset, .unset, .unset, .unset, .unset, .unset, .unset, .unset] [(.int (65 : Int32)), (.int (2 : Int32))])) (fun t k => XS.bipush X0.here hx rfl (hb hby own_d_jdk_2529_4_14) k) ?_
  refine own_by (V := s₁.setTop (mkF m 17 #[.val .null, .val (.ref o1), .val (.int (0 : Int32)), .val (.int (0 : Int32)), .val (.int (2 : Int32)), .val (.int (1 : Int32)), .val (.int (2 : Int32)), .unset, .unset, .unset, .unset, .unset, .unset, .unset, .unset, .unset, .unset, .unset, .unset, .unset, .unset] [(.int (0 : Int32)), (.int (65 : Int32)), (.int (2 : Int32))])) (fun t k => XS.iloadN X0.here hx rfl (hb hby own_d_jdk_2529_4_16) rfl  k) ?_
  refine own_by (V := s₁.setTop (mkF m 18 #[.val .null, .val (.ref o1), .val (.int (0 : Int32)), .val (.int (0 : Int32)), .val (.int (2 : Int32)), .val (.int (1 : Int32)), .val (.int (2 : Int32)), .unset, .unset, .unset, .unset, .unset, .unset, .unset, .unset, .unset, .unset, .unset, .unset, .unset, .unset] [(.int (65 : Int32)), (.int (2 : Int32))])) (fun t k => XS.iadd X0.here hx rfl (hb hby own_d_jdk_2529_4_17) rfl k) ?_
  have hb18_1 : ((2 : Int32) < (65 : Int32)) := by decide
  refine own_by (V := s₁.setTop (mkF m 21 #[.val .null, .val (.ref o1), .val (.int (0 : Int32)), .val (.int (0 : Int32)), .val (.int (2 : Int32)), .val (.int (1 : Int32)), .val (.int (2 : Int32)), .unset, .unset, .unset, .unset, .unset, .unset, .unset, .unset, .unset, .unset, .unset, .unset, .unset, .unset] [])) (fun t k => XS.icmpNo X0.here hx rfl (hb hby own_d_jdk_2529_4_18) rfl (tlt hb18_1).2.1 k) ?_
  refine own_by (V := s₁.setTop (mkF m 22 #[.val .null, .val (.ref o1), .val (.int (0 : Int32)), .val (.int (0 : Int32)), .val (.int (2 : Int32)), .val (.int (1 : Int32)), .val (.int (2 : Int32)), .unset, .unset, .unset, .unset, .unset, .unset, .unset, .unset, .unset, .unset, .unset, .unset, .unset, .unset] [(.int (0 : Int32))])) (fun t k => XS.iloadN X0.here hx rfl (hb hby own_d_jdk_2529_4_21) rfl  k) ?_
  refine own_by (V := s₁.setTop (mkF m 23 #[.val .null, .val (.ref o1), .val (.int (0 : Int32)), .val (.int (0 : Int32)), .val (.int (2 : Int32)), .val (.int (1 : Int32)), .val (.int (2 : Int32)), .unset, .unset, .unset, .unset, .unset, .unset, .unset, .unset, .unset, .unset, .unset, .unset, .unset, .unset] [(.int (1 : Int32)), (.int (0 : Int32))])) (fun t k => XS.iconst X0.here hx rfl (hb hby own_d_jdk_2529_4_22) k) ?_
  refine own_by (V := s₁.setTop (mkF m 24 #[.val .null, .val (.ref o1), .val (.int (0 : Int32)), .val (.int (0 : Int32)), .val (.int (2 : Int32)), .val (.int (1 : Int32)), .val (.int (2 : Int32)), .unset, .unset, .unset, .unset, .unset, .unset, .unset, .unset, .unset, .unset, .unset, .unset, .unset, .unset] [(.int (0 : Int32))])) (fun t k => XS.iand X0.here hx rfl (hb hby own_d_jdk_2529_4_23) rfl k) ?_
  have hb24_2 : ¬ ((0 : Int32) < (0 : Int32)) := by decide
  refine own_by (V := s₁.setTop (mkF m 46 #[.val .null, .val (.ref o1), .val (.int (0 : Int32)), .val (.int (0 : Int32)), .val (.int (2 : Int32)), .val (.int (1 : Int32)), .val (.int (2 : Int32)), .unset, .unset, .unset, .unset, .unset, .unset, .unset, .unset, .unset, .unset, .unset, .unset, .unset, .unset] [])) (fun t k => XS.ifYes X0.here hx rfl (pc0 := 24) (pc' := 46) rfl (hb hby own_d_jdk_2529_4_24) rfl ((if0 _ _).trans (flt hb24_2).2.2.2) (by decide) (by decide) k) ?_
  refine own_by (V := s₁.setTop (mkF m 48 #[.val .null, .val (.ref o1), .val (.int (0 : Int32)), .val (.int (0 : Int32)), .val (.int (2 : Int32)), .val (.int (1 : Int32)), .val (.int (2 : Int32)), .unset, .unset, .unset, .unset, .unset, .unset, .unset, .unset, .unset, .unset, .unset, .unset, .unset, .unset] [(.int (2 : Int32))])) (fun t k => XS.iload X0.here hx rfl (hb hby own_d_jdk_2529_4_46) rfl  k) ?_
  refine own_by (V := s₁.setTop (mkF m 50 #[.val .null, .val (.ref o1), .val (.int (0 : Int32)), .val (.int (0 : Int32)), .val (.int (2 : Int32)), .val (.int (1 : Int32)), .val (.int (2 : Int32)), .unset, .unset, .unset, .unset, .unset, .unset, .unset, .unset, .unset, .unset, .unset, .unset, .unset, .unset] [(.int (44 : Int32)), (.int (2 : Int32))])) (fun t k => XS.bipush X0.here hx rfl (hb hby own_d_jdk_2529_4_48) k) ?_
  have hb50_3 : ((2 : Int32) < (44 : Int32)) := by decide
  refine own_by (V := s₁.setTop (mkF m 53 #[.val .null, .val (.ref o1), .val (.int (0 : Int32)), .val (.int (0 : Int32)), .val (.int (2 : Int32)), .val (.int (1 : Int32)), .val (.int (2 : Int32)), .unset, .unset, .unset, .unset, .unset, .unset, .unset, .unset, .unset, .unset, .unset, .unset, .unset, .unset] [])) (fun t k => XS.icmpNo X0.here hx rfl (hb hby own_d_jdk_2529_4_50) rfl (tlt hb50_3).2.1 k) ?_
  refine own_by (V := s₁.setTop (mkF m 54 #[.val .null, .val (.ref o1), .val (.int (0 : Int32)), .val (.int (0 : Int32)), .val (.int (2 : Int32)), .val (.int (1 : Int32)), .val (.int (2 : Int32)), .unset, .unset, .unset, .unset, .unset, .unset, .unset, .unset, .unset, .unset, .unset, .unset, .unset, .unset] [(.ref o1)])) (fun t k => XS.aloadN X0.here hx rfl (hb hby own_d_jdk_2529_4_53) rfl rfl k) ?_
  refine own_by (V := s₁.setTop (mkF m 55 #[.val .null, .val (.ref o1), .val (.int (0 : Int32)), .val (.int (0 : Int32)), .val (.int (2 : Int32)), .val (.int (1 : Int32)), .val (.int (2 : Int32)), .unset, .unset, .unset, .unset, .unset, .unset, .unset, .unset, .unset, .unset, .unset, .unset, .unset, .unset] [(.int (0 : Int32)), (.ref o1)])) (fun t k => XS.iloadN X0.here hx rfl (hb hby own_d_jdk_2529_4_54) rfl  k) ?_
  refine own_by (V := s₁.setTop (mkF m 57 #[.val .null, .val (.ref o1), .val (.int (0 : Int32)), .val (.int (0 : Int32)), .val (.int (2 : Int32)), .val (.int (1 : Int32)), .val (.int (2 : Int32)), .unset, .unset, .unset, .unset, .unset, .unset, .unset, .unset, .unset, .unset, .unset, .unset, .unset, .unset] [(.int (2 : Int32)), (.int (0 : Int32)), (.ref o1)])) (fun t k => XS.iload X0.here hx rfl (hb hby own_d_jdk_2529_4_55) rfl  k) ?_
  obtain ⟨_, _, ⟨T4, Lq4, kq4, nq4⟩, -, X4, ⟨Lc4, hQ4, lq4, yq4, zq4⟩, st4⟩ := Jvm.LawKit.callS X0 hx (y := (⟨"java/util/DualPivotQuicksort", "insertionSort", "([III)V"⟩ : MethodName)) hown (mvT hZ (hw _ (List.mem_of_getElem? (i := 45) rfl))) (mvT hZ (hw _ (List.mem_of_getElem? (i := 46) rfl))) (mvT hZ (hw _ (List.mem_of_getElem? (i := 40) rfl))) (mvT hZ (hw _ (List.mem_of_getElem? (i := 47) rfl))) (by decide) (backOf (W := 0) (own_ins_2 l Z a0 hw [] o1 kb x0 x1 h0 n0 Z0 A0 g0) hZ (hw _ (List.mem_of_getElem? (i := 47) rfl)) (hw _ (List.mem_of_getElem? (i := 40) rfl)) (by decide) (by decide)) (g := (mkF m 57 #[.val .null, .val (.ref o1), .val (.int (0 : Int32)), .val (.int (0 : Int32)), .val (.int (2 : Int32)), .val (.int (1 : Int32)), .val (.int (2 : Int32)), .unset, .unset, .unset, .unset, .unset, .unset, .unset, .unset, .unset, .unset, .unset, .unset, .unset, .unset] [(.int (2 : Int32)), (.int (0 : Int32)), (.ref o1)])) rfl (by rw [hml]; rfl) (argsL := [(.ref o1), (.int (0 : Int32)), (.int (2 : Int32))]) (rest := []) (lenOf own_pd0 rfl) rfl (by show 2 * 0 + _ ≤ _; exact Nat.le_of_eq rfl) (hb hby own_d_jdk_2529_4_57) (fun _ _ => ⟨rfl, e0, (by decide : 0 + 0 ≤ _), (by decide : 0 + 0 ≤ _)⟩)
  dsimp only [Pt.U, Pt.locs, Pt.cells, Pt.slots] at X4 lq4 yq4 zq4 st4 hQ4
  subst lq4 yq4 zq4
  obtain ⟨rfl, N4q, Kc4, g4_0⟩ := hQ4
  have N4 := Fr.app N0 N4q
  have K4 := (Keep.refl h0 [o1]).trans Kc4 (allS (Or.inl (List.mem_of_getElem? (i := 0) rfl)) all0)
  have Zs4 : n0 ≤ T4.heap.size := Nat.le_trans Z0 Kc4.1
  refine own_by (V := T4.setTop (mkF m 60 #[.val .null, .val (.ref o1), .val (.int (0 : Int32)), .val (.int (0 : Int32)), .val (.int (2 : Int32)), .val (.int (1 : Int32)), .val (.int (2 : Int32)), .unset, .unset, .unset, .unset, .unset, .unset, .unset, .unset, .unset, .unset, .unset, .unset, .unset, .unset] [])) st4 ?_
  refine own_ret0 X4 hx hlk rfl Bd.returns (hb hby own_d_jdk_2529_4_60) ?_ (by decide) (by decide)
  exact ⟨rfl, N4, K4, g4_0⟩
def own_Q_own_dq1_2 (Z : State) (o0 : Addr) (kb : ClassId) (x0 : Int32) (x1 : Int32) (h0 : Heap) (n0 : Nat) : Option Value → Heap → List Loc → Prop := fun v h L => v = none ∧ Fr n0 L ∧ Keep h0 h [o0] ∧ Arv Z h o0 kb .int (2 : Int32) [(.int (own_min x0 x1)), (.int (own_max x0 x1))] (.int (0 : Int32))
theorem own_ef_own_dq1_2 (m : MethodId) (x0 : Addr) : entryFrame m #[(.ref x0), (.int (0 : Int32)), (.int (0 : Int32)), (.int (2 : Int32))] 7 = mkF m 0 #[.val (.ref x0), .val (.int (0 : Int32)), .val (.int (0 : Int32)), .val (.int (2 : Int32)), .unset, .unset, .unset] [] := by first | (simp [entryFrame, mkF, argsToLocals, Value.category]; done) | rfl
set_option maxRecDepth 65536 in
set_option maxHeartbeats 40000000 in
theorem own_dq1_2 (l : Launch) (Z : State) (a0 : Array Value) (hw : ∀ d ∈ tables_1, d.before a0 Z = true) (ws : List Jvm.Cond) (o0 : Addr) (kb : ClassId) (x0 : Int32) (x1 : Int32) (h0 : Heap) (n0 : Nat) (Z0 : n0 ≤ h0.size) (A0 : Arv Z h0 o0 kb .int (2 : Int32) [(.int x0), (.int x1)] (.int (0 : Int32))) (g0 : n0 ≤ o0) :
    MetFree l (⟨"java/util/DualPivotQuicksort", "sort", "([IIII)V"⟩ : MethodName) (head1 (Jvm.Cond.code (⟨"java/util/DualPivotQuicksort", "sort", "([IIII)V"⟩ : MethodName) jdk_2529_method_3_code 7 none :: ws) ({ frames := 2, cells := 0, slots := 0, locals := 49 } : Room)) (fun a U => a = #[(.ref o0), (.int (0 : Int32)), (.int (0 : Int32)), (.int (2 : Int32))] ∧ Z.Warmed39 U.vm ∧ U.heap = h0) (fun _ _ _ _ _ => True) (fun _ U o U' => ∃ v L, o = .returned v ∧ (own_Q_own_dq1_2 Z o0 kb x0 x1 h0 n0) v U'.heap L ∧ FrameEnd U o U' L ({ frames := 2, cells := 0, slots := 0, locals := 49 } : Room).cells ({ frames := 2, cells := 0, slots := 0, locals := 49 } : Room).slots) := by
  refine MetFree.of_bodySF (plainFor_of_name own_pn1) hisR ?_
  intro p e s m args below meth c s₁ Bd hml0 hP hK
  obtain ⟨rfl, hZ, hh⟩ := hP
  have hx := Bd.exec
  have hby := Bd.bytes
  have hml : c.maxLocals = 7 := hml0
  have hown : s.vm.findClass "java/util/DualPivotQuicksort" = some m.cls := findClass_of_methodNamed Bd.named
  have hnm := (name_of_methodNamed Bd.named Bd.method).1
  have hlk : meth.locks = false := BodyLoose.notSynchronized Bd
  have X0 : Stand p l e ({ frames := 2, cells := 0, slots := 0, locals := 49 } : Room) s m #[(.ref o0), (.int (0 : Int32)), (.int (0 : Int32)), (.int (2 : Int32))] below meth c s₁ [] 0 0 := Stand.of_body Bd
  have e0 : s₁.heap = h0 := by rw [← hh, Bd.state]; rfl
  have N0 := Fr.nil n0
  show own_Ends p e below s (own_Q_own_dq1_2 Z o0 kb x0 x1 h0 n0) ({ frames := 2, cells := 0, slots := 0, locals := 49 } : Room).cells ({ frames := 2, cells := 0, slots := 0, locals := 49 } : Room).slots _
  refine own_by (V := s₁.setTop (mkF m 0 #[.val (.ref o0), .val (.int (0 : Int32)), .val (.int (0 : Int32)), .val (.int (2 : Int32)), .unset, .unset, .unset] [])) (fun t k => castTop (own_ef_own_dq1_2 m o0) k) ?_
  refine own_by (V := s₁.setTop (mkF m 1 #[.val (.ref o0), .val (.int (0 : Int32)), .val (.int (0 : Int32)), .val (.int (2 : Int32)), .unset, .unset, .unset] [(.int (2 : Int32))])) (fun t k => XS.iloadN X0.here hx rfl (hb hby own_d_jdk_2529_3_0) rfl  k) ?_
  refine own_by (V := s₁.setTop (mkF m 2 #[.val (.ref o0), .val (.int (0 : Int32)), .val (.int (0 : Int32)), .val (.int (2 : Int32)), .unset, .unset, .unset] [(.int (0 : Int32)), (.int (2 : Int32))])) (fun t k => XS.iloadN X0.here hx rfl (hb hby own_d_jdk_2529_3_1) rfl  k) ?_
  refine own_by (V := s₁.setTop (mkF m 3 #[.val (.ref o0), .val (.int (0 : Int32)), .val (.int (0 : Int32)), .val (.int (2 : Int32)), .unset, .unset, .unset] [(.int (2 : Int32))])) (fun t k => XS.isub X0.here hx rfl (hb hby own_d_jdk_2529_3_2) rfl k) ?_
  refine own_by (V := s₁.setTop (mkF m 5 #[.val (.ref o0), .val (.int (0 : Int32)), .val (.int (0 : Int32)), .val (.int (2 : Int32)), .val (.int (2 : Int32)), .unset, .unset] [])) (fun t k => XS.istore X0.here hx rfl (hb hby own_d_jdk_2529_3_3) rfl (l' := #[.val (.ref o0), .val (.int (0 : Int32)), .val (.int (0 : Int32)), .val (.int (2 : Int32)), .val (.int (2 : Int32)), .unset, .unset]) rfl k) ?_
  refine own_by (V := s₁.setTop (mkF m 6 #[.val (.ref o0), .val (.int (0 : Int32)), .val (.int (0 : Int32)), .val (.int (2 : Int32)), .val (.int (2 : Int32)), .unset, .unset] [(.int (0 : Int32))])) (fun t k => XS.iloadN X0.here hx rfl (hb hby own_d_jdk_2529_3_5) rfl  k) ?_
  refine own_by (V := s₁.setTop (mkF m 7 #[.val (.ref o0), .val (.int (0 : Int32)), .val (.int (0 : Int32)), .val (.int (2 : Int32)), .val (.int (2 : Int32)), .unset, .unset] [(.int (1 : Int32)), (.int (0 : Int32))])) (fun t k => XS.iconst X0.here hx rfl (hb hby own_d_jdk_2529_3_6) k) ?_
  have hb7_1 : ¬ ((1 : Int32) < (0 : Int32)) := by decide
  refine own_by (V := s₁.setTop (mkF m 68 #[.val (.ref o0), .val (.int (0 : Int32)), .val (.int (0 : Int32)), .val (.int (2 : Int32)), .val (.int (2 : Int32)), .unset, .unset] [])) (fun t k => XS.icmpYes X0.here hx rfl (pc0 := 7) (pc' := 68) rfl (hb hby own_d_jdk_2529_3_7) rfl (flt hb7_1).2.2.2 (by decide) (by decide) k) ?_
  refine own_by (V := s₁.setTop (mkF m 69 #[.val (.ref o0), .val (.int (0 : Int32)), .val (.int (0 : Int32)), .val (.int (2 : Int32)), .val (.int (2 : Int32)), .unset, .unset] [.null])) (fun t k => XS.aconstNull X0.here hx rfl (hb hby own_d_jdk_2529_3_68) k) ?_
  refine own_by (V := s₁.setTop (mkF m 70 #[.val (.ref o0), .val (.int (0 : Int32)), .val (.int (0 : Int32)), .val (.int (2 : Int32)), .val (.int (2 : Int32)), .unset, .unset] [(.ref o0), .null])) (fun t k => XS.aloadN X0.here hx rfl (hb hby own_d_jdk_2529_3_69) rfl rfl k) ?_
  refine own_by (V := s₁.setTop (mkF m 71 #[.val (.ref o0), .val (.int (0 : Int32)), .val (.int (0 : Int32)), .val (.int (2 : Int32)), .val (.int (2 : Int32)), .unset, .unset] [(.int (0 : Int32)), (.ref o0), .null])) (fun t k => XS.iconst X0.here hx rfl (hb hby own_d_jdk_2529_3_70) k) ?_
  refine own_by (V := s₁.setTop (mkF m 72 #[.val (.ref o0), .val (.int (0 : Int32)), .val (.int (0 : Int32)), .val (.int (2 : Int32)), .val (.int (2 : Int32)), .unset, .unset] [(.int (0 : Int32)), (.int (0 : Int32)), (.ref o0), .null])) (fun t k => XS.iloadN X0.here hx rfl (hb hby own_d_jdk_2529_3_71) rfl  k) ?_
  refine own_by (V := s₁.setTop (mkF m 73 #[.val (.ref o0), .val (.int (0 : Int32)), .val (.int (0 : Int32)), .val (.int (2 : Int32)), .val (.int (2 : Int32)), .unset, .unset] [(.int (2 : Int32)), (.int (0 : Int32)), (.int (0 : Int32)), (.ref o0), .null])) (fun t k => XS.iloadN X0.here hx rfl (hb hby own_d_jdk_2529_3_72) rfl  k) ?_
  obtain ⟨_, _, ⟨T2, Lq2, kq2, nq2⟩, -, X2, ⟨Lc2, hQ2, lq2, yq2, zq2⟩, st2⟩ := Jvm.LawKit.callS X0 hx (y := (⟨"java/util/DualPivotQuicksort", "sort", "(Ljava/util/DualPivotQuicksort$Sorter;[IIII)V"⟩ : MethodName)) hown (mvT hZ (hw _ (List.mem_of_getElem? (i := 42) rfl))) (mvT hZ (hw _ (List.mem_of_getElem? (i := 43) rfl))) (mvT hZ (hw _ (List.mem_of_getElem? (i := 40) rfl))) (mvT hZ (hw _ (List.mem_of_getElem? (i := 44) rfl))) (by decide) (backOf (W := 0) (own_dq2_2 l Z a0 hw [] o0 kb x0 x1 h0 n0 Z0 A0 g0) hZ (hw _ (List.mem_of_getElem? (i := 44) rfl)) (hw _ (List.mem_of_getElem? (i := 40) rfl)) (by decide) (by decide)) (g := (mkF m 73 #[.val (.ref o0), .val (.int (0 : Int32)), .val (.int (0 : Int32)), .val (.int (2 : Int32)), .val (.int (2 : Int32)), .unset, .unset] [(.int (2 : Int32)), (.int (0 : Int32)), (.int (0 : Int32)), (.ref o0), .null])) rfl (by rw [hml]; rfl) (argsL := [.null, (.ref o0), (.int (0 : Int32)), (.int (0 : Int32)), (.int (2 : Int32))]) (rest := []) (lenOf own_pd1 rfl) rfl (by show 2 * 0 + _ ≤ _; exact Nat.le_of_eq rfl) (hb hby own_d_jdk_2529_3_73) (fun _ _ => ⟨rfl, e0, (by decide : 0 + 0 ≤ _), (by decide : 0 + 0 ≤ _)⟩)
  dsimp only [Pt.U, Pt.locs, Pt.cells, Pt.slots] at X2 lq2 yq2 zq2 st2 hQ2
  subst lq2 yq2 zq2
  obtain ⟨rfl, N2q, Kc2, g2_0⟩ := hQ2
  have N2 := Fr.app N0 N2q
  have K2 := (Keep.refl h0 [o0]).trans Kc2 (allS (Or.inl (List.mem_of_getElem? (i := 0) rfl)) all0)
  have Zs2 : n0 ≤ T2.heap.size := Nat.le_trans Z0 Kc2.1
  refine own_by (V := T2.setTop (mkF m 76 #[.val (.ref o0), .val (.int (0 : Int32)), .val (.int (0 : Int32)), .val (.int (2 : Int32)), .val (.int (2 : Int32)), .unset, .unset] [])) st2 ?_
  refine own_ret0 X2 hx hlk rfl Bd.returns (hb hby own_d_jdk_2529_3_76) ?_ (by decide) (by decide)
  exact ⟨rfl, N2, K2, g2_0⟩
def own_Q_own_sort_2 (Z : State) (o0 : Addr) (kb : ClassId) (x0 : Int32) (x1 : Int32) (h0 : Heap) (n0 : Nat) : Option Value → Heap → List Loc → Prop := fun v h L => v = none ∧ Fr n0 L ∧ Keep h0 h [o0] ∧ Arv Z h o0 kb .int (2 : Int32) [(.int (own_min x0 x1)), (.int (own_max x0 x1))] (.int (0 : Int32))
theorem own_ef_own_sort_2 (m : MethodId) (x0 : Addr) : entryFrame m #[(.ref x0)] 1 = mkF m 0 #[.val (.ref x0)] [] := by first | (simp [entryFrame, mkF, argsToLocals, Value.category]; done) | rfl
set_option maxRecDepth 65536 in
set_option maxHeartbeats 40000000 in
theorem own_sort_2 (l : Launch) (Z : State) (a0 : Array Value) (hw : ∀ d ∈ tables_1, d.before a0 Z = true) (ws : List Jvm.Cond) (o0 : Addr) (kb : ClassId) (x0 : Int32) (x1 : Int32) (h0 : Heap) (n0 : Nat) (Z0 : n0 ≤ h0.size) (A0 : Arv Z h0 o0 kb .int (2 : Int32) [(.int x0), (.int x1)] (.int (0 : Int32))) (g0 : n0 ≤ o0) :
    MetFree l (⟨"java/util/Arrays", "sort", "([I)V"⟩ : MethodName) (head1 (Jvm.Cond.code (⟨"java/util/Arrays", "sort", "([I)V"⟩ : MethodName) jdk_65_method_2_code 1 none :: ws) ({ frames := 3, cells := 0, slots := 0, locals := 67 } : Room)) (fun a U => a = #[(.ref o0)] ∧ Z.Warmed39 U.vm ∧ U.heap = h0) (fun _ _ _ _ _ => True) (fun _ U o U' => ∃ v L, o = .returned v ∧ (own_Q_own_sort_2 Z o0 kb x0 x1 h0 n0) v U'.heap L ∧ FrameEnd U o U' L ({ frames := 3, cells := 0, slots := 0, locals := 67 } : Room).cells ({ frames := 3, cells := 0, slots := 0, locals := 67 } : Room).slots) := by
  refine MetFree.of_bodySF (plainFor_of_name own_pn2) hisR ?_
  intro p e s m args below meth c s₁ Bd hml0 hP hK
  obtain ⟨rfl, hZ, hh⟩ := hP
  have hx := Bd.exec
  have hby := Bd.bytes
  have hml : c.maxLocals = 1 := hml0
  have hown : s.vm.findClass "java/util/Arrays" = some m.cls := findClass_of_methodNamed Bd.named
  have hnm := (name_of_methodNamed Bd.named Bd.method).1
  have hlk : meth.locks = false := BodyLoose.notSynchronized Bd
  have X0 : Stand p l e ({ frames := 3, cells := 0, slots := 0, locals := 67 } : Room) s m #[(.ref o0)] below meth c s₁ [] 0 0 := Stand.of_body Bd
  have e0 : s₁.heap = h0 := by rw [← hh, Bd.state]; rfl
  have N0 := Fr.nil n0
  show own_Ends p e below s (own_Q_own_sort_2 Z o0 kb x0 x1 h0 n0) ({ frames := 3, cells := 0, slots := 0, locals := 67 } : Room).cells ({ frames := 3, cells := 0, slots := 0, locals := 67 } : Room).slots _
  refine own_by (V := s₁.setTop (mkF m 0 #[.val (.ref o0)] [])) (fun t k => castTop (own_ef_own_sort_2 m o0) k) ?_
  refine own_by (V := s₁.setTop (mkF m 1 #[.val (.ref o0)] [(.ref o0)])) (fun t k => XS.aloadN X0.here hx rfl (hb hby own_d_jdk_65_2_0) rfl rfl k) ?_
  refine own_by (V := s₁.setTop (mkF m 2 #[.val (.ref o0)] [(.int (0 : Int32)), (.ref o0)])) (fun t k => XS.iconst X0.here hx rfl (hb hby own_d_jdk_65_2_1) k) ?_
  refine own_by (V := s₁.setTop (mkF m 3 #[.val (.ref o0)] [(.int (0 : Int32)), (.int (0 : Int32)), (.ref o0)])) (fun t k => XS.iconst X0.here hx rfl (hb hby own_d_jdk_65_2_2) k) ?_
  refine own_by (V := s₁.setTop (mkF m 4 #[.val (.ref o0)] [(.ref o0), (.int (0 : Int32)), (.int (0 : Int32)), (.ref o0)])) (fun t k => XS.aloadN X0.here hx rfl (hb hby own_d_jdk_65_2_3) rfl rfl k) ?_
  obtain ⟨cl1, Ar1, qa1, Sa1, Ma1, Ha1, Ua1⟩ := id A0
  have hl1 := len_of Sa1 Ma1
  refine own_by (V := s₁.setTop (mkF m 5 #[.val (.ref o0)] [(.int (2 : Int32)), (.int (0 : Int32)), (.int (0 : Int32)), (.ref o0)])) (by have q := X0.arraylength hx (cell := cl1) (by rw [e0]; exact Ar1.1) (State.isArrayOf_alike hZ.alike Ar1.2.1) (g := (mkF m 4 #[.val (.ref o0)] [(.ref o0), (.int (0 : Int32)), (.int (0 : Int32)), (.ref o0)])) rfl (rest := [(.int (0 : Int32)), (.int (0 : Int32)), (.ref o0)]) rfl (hb hby own_d_jdk_65_2_4); rw [hl1] at q; exact q) ?_
  obtain ⟨_, _, ⟨T2, Lq2, kq2, nq2⟩, -, X2, ⟨Lc2, hQ2, lq2, yq2, zq2⟩, st2⟩ := Jvm.LawKit.callS X0 hx (y := (⟨"java/util/DualPivotQuicksort", "sort", "([IIII)V"⟩ : MethodName)) hown (mvT hZ (hw _ (List.mem_of_getElem? (i := 38) rfl))) (mvT hZ (hw _ (List.mem_of_getElem? (i := 39) rfl))) (mvT hZ (hw _ (List.mem_of_getElem? (i := 40) rfl))) (mvT hZ (hw _ (List.mem_of_getElem? (i := 41) rfl))) (by decide) (backOf (W := 0) (own_dq1_2 l Z a0 hw [] o0 kb x0 x1 h0 n0 Z0 A0 g0) hZ (hw _ (List.mem_of_getElem? (i := 41) rfl)) (hw _ (List.mem_of_getElem? (i := 40) rfl)) (by decide) (by decide)) (g := (mkF m 5 #[.val (.ref o0)] [(.int (2 : Int32)), (.int (0 : Int32)), (.int (0 : Int32)), (.ref o0)])) rfl (by rw [hml]; rfl) (argsL := [(.ref o0), (.int (0 : Int32)), (.int (0 : Int32)), (.int (2 : Int32))]) (rest := []) (lenOf own_pd2 rfl) rfl (by show 2 * 0 + _ ≤ _; exact Nat.le_of_eq rfl) (hb hby own_d_jdk_65_2_5) (fun _ _ => ⟨rfl, e0, (by decide : 0 + 0 ≤ _), (by decide : 0 + 0 ≤ _)⟩)
  dsimp only [Pt.U, Pt.locs, Pt.cells, Pt.slots] at X2 lq2 yq2 zq2 st2 hQ2
  subst lq2 yq2 zq2
  obtain ⟨rfl, N2q, Kc2, g2_0⟩ := hQ2
  have N2 := Fr.app N0 N2q
  have K2 := (Keep.refl h0 [o0]).trans Kc2 (allS (Or.inl (List.mem_of_getElem? (i := 0) rfl)) all0)
  have Zs2 : n0 ≤ T2.heap.size := Nat.le_trans Z0 Kc2.1
  refine own_by (V := T2.setTop (mkF m 8 #[.val (.ref o0)] [])) st2 ?_
  refine own_ret0 X2 hx hlk rfl Bd.returns (hb hby own_d_jdk_65_2_8) ?_ (by decide) (by decide)
  exact ⟨rfl, N2, K2, g2_0⟩
def own_Q_own_snap_2 (Z : State) (o0 : Addr) (o1 : Addr) (o2 : Addr) (kb : ClassId) (x0 : Int32) (x1 : Int32) (h0 : Heap) (n0 : Nat) : Option Value → Heap → List Loc → Prop := fun v h L => ∃ (b : Addr), v = none ∧ Fr n0 L ∧ Keep h0 h [o0] ∧ h0.size ≤ b ∧ Exa Z h o0 "com/example/nocord/nocord/model/Snapshot" ∧ Fld Z h o0 "com/example/nocord/nocord/model/Snapshot" "timestamp" "Lcom/example/nocord/nocord/model/Timestamp;" (.ref o1) ∧ Fld Z h o0 "com/example/nocord/nocord/model/Snapshot" "installing" "[I" (.ref b) ∧ Arv Z h b kb .int (2 : Int32) [(.int (own_min x0 x1)), (.int (own_max x0 x1))] (.int (0 : Int32)) ∧ Exa Z h b "[I"
theorem own_ef_own_snap_2 (m : MethodId) (x0 : Addr) (x1 : Addr) (x2 : Addr) : entryFrame m #[(.ref x0), (.ref x1), (.ref x2)] 3 = mkF m 0 #[.val (.ref x0), .val (.ref x1), .val (.ref x2)] [] := by first | (simp [entryFrame, mkF, argsToLocals, Value.category]; done) | rfl
set_option maxRecDepth 65536 in
set_option maxHeartbeats 40000000 in
theorem own_snap_2 (l : Launch) (Z : State) (a0 : Array Value) (hw : ∀ d ∈ tables_1, d.before a0 Z = true) (ws : List Jvm.Cond) (o0 : Addr) (o1 : Addr) (o2 : Addr) (kb : ClassId) (x0 : Int32) (x1 : Int32) (h0 : Heap) (n0 : Nat) (Z0 : n0 ≤ h0.size) (g0 : n0 ≤ o0) (E0 : Exa Z h0 o0 "com/example/nocord/nocord/model/Snapshot") (Ft : Fld Z h0 o0 "com/example/nocord/nocord/model/Snapshot" "timestamp" "Lcom/example/nocord/nocord/model/Timestamp;" .null) (Fi : Fld Z h0 o0 "com/example/nocord/nocord/model/Snapshot" "installing" "[I" .null) (A2 : Arv Z h0 o2 kb .int (2 : Int32) [(.int x0), (.int x1)] (.int (0 : Int32))) (E2 : Exa Z h0 o2 "[I") (hne : o2 ≠ o0) :
    MetFree l (⟨"com/example/nocord/nocord/model/Snapshot", "<init>", "(Lcom/example/nocord/nocord/model/Timestamp;[I)V"⟩ : MethodName) (head1 (Jvm.Cond.code (⟨"com/example/nocord/nocord/model/Snapshot", "<init>", "(Lcom/example/nocord/nocord/model/Timestamp;[I)V"⟩ : MethodName) prog_47_method_1_code 3 none :: ws) ({ frames := 4, cells := 1, slots := 2, locals := 79 } : Room)) (fun a U => a = #[(.ref o0), (.ref o1), (.ref o2)] ∧ Z.Warmed39 U.vm ∧ U.heap = h0) (fun _ _ _ _ _ => True) (fun _ U o U' => ∃ v L, o = .returned v ∧ (own_Q_own_snap_2 Z o0 o1 o2 kb x0 x1 h0 n0) v U'.heap L ∧ FrameEnd U o U' L ({ frames := 4, cells := 1, slots := 2, locals := 79 } : Room).cells ({ frames := 4, cells := 1, slots := 2, locals := 79 } : Room).slots) := by
  refine MetFree.of_bodySF (plainFor_of_name own_pn3) hisR ?_
  intro p e s m args below meth c s₁ Bd hml0 hP hK
  obtain ⟨rfl, hZ, hh⟩ := hP
  have hx := Bd.exec
  have hby := Bd.bytes
  have hml : c.maxLocals = 3 := hml0
  have hown : s.vm.findClass "com/example/nocord/nocord/model/Snapshot" = some m.cls := findClass_of_methodNamed Bd.named
  have hnm := (name_of_methodNamed Bd.named Bd.method).1
  have hlk : meth.locks = false := BodyLoose.notSynchronized Bd
  have X0 : Stand p l e ({ frames := 4, cells := 1, slots := 2, locals := 79 } : Room) s m #[(.ref o0), (.ref o1), (.ref o2)] below meth c s₁ [] 0 0 := Stand.of_body Bd
  have e0 : s₁.heap = h0 := by rw [← hh, Bd.state]; rfl
  have N0 := Fr.nil n0
  show own_Ends p e below s (own_Q_own_snap_2 Z o0 o1 o2 kb x0 x1 h0 n0) ({ frames := 4, cells := 1, slots := 2, locals := 79 } : Room).cells ({ frames := 4, cells := 1, slots := 2, locals := 79 } : Room).slots _
  refine own_by (V := s₁.setTop (mkF m 0 #[.val (.ref o0), .val (.ref o1), .val (.ref o2)] [])) (fun t k => castTop (own_ef_own_snap_2 m o0 o1 o2) k) ?_
  refine own_by (V := s₁.setTop (mkF m 1 #[.val (.ref o0), .val (.ref o1), .val (.ref o2)] [(.ref o0)])) (fun t k => XS.aloadN X0.here hx rfl (hb hby own_d_prog_47_1_0) rfl rfl k) ?_
  obtain ⟨T1, X1, e1, st1⟩ := initO X0 hx hZ hown (hw _ (List.mem_of_getElem? (i := 20) rfl)) (hw _ (List.mem_of_getElem? (i := 11) rfl)) (hw _ (List.mem_of_getElem? (i := 12) rfl)) e0 (g := (mkF m 1 #[.val (.ref o0), .val (.ref o1), .val (.ref o2)] [(.ref o0)])) rfl (by rw [hml]; rfl) rfl (hb hby own_d_prog_47_1_1) (by decide) (W := 0) (by show 2 * 0 + _ ≤ _; exact Nat.le_of_eq rfl) (by decide)
  refine own_by (V := T1.setTop (mkF m 4 #[.val (.ref o0), .val (.ref o1), .val (.ref o2)] [])) st1 ?_
  refine own_by (V := T1.setTop (mkF m 5 #[.val (.ref o0), .val (.ref o1), .val (.ref o2)] [(.ref o2)])) (fun t k => XS.aloadN X1.here hx rfl (hb hby own_d_prog_47_1_4) rfl rfl k) ?_
  refine own_by (V := T1.setTop (mkF m 8 #[.val (.ref o0), .val (.ref o1), .val (.ref o2)] [])) (fun t k => XS.ifnullNo X1.here hx rfl (hb hby own_d_prog_47_1_5) rfl k) ?_
  refine own_by (V := T1.setTop (mkF m 9 #[.val (.ref o0), .val (.ref o1), .val (.ref o2)] [(.ref o2)])) (fun t k => XS.aloadN X1.here hx rfl (hb hby own_d_prog_47_1_8) rfl rfl k) ?_
  obtain ⟨cl2, Ar2, qa2, Sa2, Ma2, Ha2, Ua2⟩ := id A2
  have hl2 := len_of Sa2 Ma2
  refine own_by (V := T1.setTop (mkF m 10 #[.val (.ref o0), .val (.ref o1), .val (.ref o2)] [(.int (2 : Int32))])) (by have q := X1.arraylength hx (cell := cl2) (by rw [e1]; exact Ar2.1) (State.isArrayOf_alike hZ.alike Ar2.2.1) (g := (mkF m 9 #[.val (.ref o0), .val (.ref o1), .val (.ref o2)] [(.ref o2)])) rfl (rest := []) rfl (hb hby own_d_prog_47_1_9); rw [hl2] at q; exact q) ?_
  refine own_by (V := T1.setTop (mkF m 13 #[.val (.ref o0), .val (.ref o1), .val (.ref o2)] [(.int (10000 : Int32)), (.int (2 : Int32))])) (fun t k => XS.sipush X1.here hx rfl (hb hby own_d_prog_47_1_10) k) ?_
  have hb13_3 : ¬ ((10000 : Int32) < (2 : Int32)) := by decide
  refine own_by (V := T1.setTop (mkF m 31 #[.val (.ref o0), .val (.ref o1), .val (.ref o2)] [])) (fun t k => XS.icmpYes X1.here hx rfl (pc0 := 13) (pc' := 31) rfl (hb hby own_d_prog_47_1_13) rfl (flt hb13_3).2.2.2 (by decide) (by decide) k) ?_
  refine own_by (V := T1.setTop (mkF m 32 #[.val (.ref o0), .val (.ref o1), .val (.ref o2)] [(.ref o0)])) (fun t k => XS.aloadN X1.here hx rfl (hb hby own_d_prog_47_1_31) rfl rfl k) ?_
  refine own_by (V := T1.setTop (mkF m 33 #[.val (.ref o0), .val (.ref o1), .val (.ref o2)] [(.ref o1), (.ref o0)])) (fun t k => XS.aloadN X1.here hx rfl (hb hby own_d_prog_47_1_32) rfl rfl k) ?_
  obtain ⟨T4, h4, X4, e4, W4, st4⟩ := putF X1 hx hZ hown (host := "") (Or.inl (hw _ (List.mem_of_getElem? (i := 21) rfl))) Via.refl e1 Ft E0 (Or.inr ⟨(hw _ (List.mem_of_getElem? (i := 22) rfl)), rfl, hnm⟩) (hw _ (List.mem_of_getElem? (i := 2) rfl)) (ty := (.object "com/example/nocord/nocord/model/Timestamp")) (by decide) rfl rfl (g := (mkF m 33 #[.val (.ref o0), .val (.ref o1), .val (.ref o2)] [(.ref o1), (.ref o0)])) rfl rfl (hb hby own_d_prog_47_1_33)
  have N4 := Fr.snoc X4 N0 g0
  have K4 := (Keep.refl h0 [o0]).wr W4 (Or.inl (List.mem_of_getElem? (i := 0) rfl))
  have Zs4 : n0 ≤ h4.size := by rw [W4.size]; exact Z0
  have f5 := E0.wr W4
  have f6 := Ft.same W4
  have f7 := Fi.other W4 (Or.inr (slot_ne (Or.inr (hw _ (List.mem_of_getElem? (i := 33) rfl))) (Or.inr (hw _ (List.mem_of_getElem? (i := 22) rfl))) (by decide) (t := (.array .int)) (t' := (.object "com/example/nocord/nocord/model/Timestamp")) (by decide) (by decide)))
  have f8 := A2.other W4 hne
  have f9 := E2.wr W4
  refine own_by (V := T4.setTop (mkF m 36 #[.val (.ref o0), .val (.ref o1), .val (.ref o2)] [])) st4 ?_
  refine own_by (V := T4.setTop (mkF m 37 #[.val (.ref o0), .val (.ref o1), .val (.ref o2)] [(.ref o0)])) (fun t k => XS.aloadN X4.here hx rfl (hb hby own_d_prog_47_1_36) rfl rfl k) ?_
  refine own_by (V := T4.setTop (mkF m 38 #[.val (.ref o0), .val (.ref o1), .val (.ref o2)] [(.ref o2), (.ref o0)])) (fun t k => XS.aloadN X4.here hx rfl (hb hby own_d_prog_47_1_37) rfl rfl k) ?_
  refine own_by (V := T4.setTop (mkF m 41 #[.val (.ref o0), .val (.ref o1), .val (.ref o2)] [(.ref o0)])) (fun t k => XS.ifnullNo X4.here hx rfl (hb hby own_d_prog_47_1_38) rfl k) ?_
  refine own_by (V := T4.setTop (mkF m 42 #[.val (.ref o0), .val (.ref o1), .val (.ref o2)] [(.ref o2), (.ref o0)])) (fun t k => XS.aloadN X4.here hx rfl (hb hby own_d_prog_47_1_41) rfl rfl k) ?_
  obtain ⟨T10, h10, X10, e10, E10, A10, Ex10, st10⟩ := cloneH X4 hx hZ hown (hw _ (List.mem_of_getElem? (i := 23) rfl)) (hw _ (List.mem_of_getElem? (i := 24) rfl)) (hw _ (List.mem_of_getElem? (i := 28) rfl)) (hw _ (List.mem_of_getElem? (i := 26) rfl)) (hw _ (List.mem_of_getElem? (i := 27) rfl)) (hw _ (List.mem_of_getElem? (i := 29) rfl)) e4 (Arv.arh f8) f9 (g := (mkF m 42 #[.val (.ref o0), .val (.ref o1), .val (.ref o2)] [(.ref o2), (.ref o0)])) rfl (by rw [hml]; rfl) rfl (hb hby own_d_prog_47_1_42) (by decide) (W := 1) (by show 2 * 0 + _ ≤ _; exact Nat.le_of_eq rfl) (by decide) (cap := 2) (by decide) (by decide) (by decide)
  obtain ⟨b10, g10⟩ : ∃ z, z = h4.size := ⟨_, rfl⟩
  rw [← g10] at A10 Ex10 st10
  have kb10 : h0.size ≤ b10 := Nat.le_trans K4.1 (Nat.le_of_eq g10.symm)
  have ne11 : o0 ≠ b10 := Nat.ne_of_lt (Nat.lt_of_lt_of_le f5.lt (Nat.le_of_eq g10.symm))
  have ne12 : o2 ≠ b10 := Nat.ne_of_lt (Nat.lt_of_lt_of_le f8.lt (Nat.le_of_eq g10.symm))
  have f14 := f5.ext E10
  have f15 := f6.ext E10
  have f16 := f7.ext E10
  have f17 := f8.ext E10
  have f18 := f9.ext E10
  have K10 := K4.ext E10
  have V10 : Arv Z h10 b10 kb .int (2 : Int32) [(.int x0), (.int x1)] (.int (0 : Int32)) := A10
  have gn10 : n0 ≤ b10 := Nat.le_trans Zs4 (Nat.le_of_eq g10.symm)
  have Zs10 : n0 ≤ h10.size := Nat.le_trans Zs4 E10.1
  refine own_by (V := T10.setTop (mkF m 45 #[.val (.ref o0), .val (.ref o1), .val (.ref o2)] [(.ref b10), (.ref o0)])) st10 ?_
  obtain ⟨T24, X24, e24, st24⟩ := castY X10 hx hZ hown (hw _ (List.mem_of_getElem? (i := 30) rfl)) e10 (Ins.self Ex10) (g := (mkF m 45 #[.val (.ref o0), .val (.ref o1), .val (.ref o2)] [(.ref b10), (.ref o0)])) rfl rfl (hb hby own_d_prog_47_1_45)
  refine own_by (V := T24.setTop (mkF m 48 #[.val (.ref o0), .val (.ref o1), .val (.ref o2)] [(.ref b10), (.ref o0)])) st24 ?_
  refine own_by (V := T24.setTop (mkF m 52 #[.val (.ref o0), .val (.ref o1), .val (.ref o2)] [(.ref b10), (.ref o0)])) (fun t k => XS.goto X24.here hx rfl (pc0 := 48) (pc' := 52) rfl (hb hby own_d_prog_47_1_48) (by decide) (by decide) k) ?_
  obtain ⟨T25, h25, X25, e25, W25, st25⟩ := putF X24 hx hZ hown (host := "") (Or.inl (hw _ (List.mem_of_getElem? (i := 32) rfl))) Via.refl e24 f16 f14 (Or.inr ⟨(hw _ (List.mem_of_getElem? (i := 33) rfl)), rfl, hnm⟩) (hw _ (List.mem_of_getElem? (i := 2) rfl)) (ty := (.array .int)) (by decide) rfl rfl (g := (mkF m 52 #[.val (.ref o0), .val (.ref o1), .val (.ref o2)] [(.ref b10), (.ref o0)])) rfl rfl (hb hby own_d_prog_47_1_52)
  have N25 := Fr.snoc X25 N4 g0
  have K25 := K10.wr W25 (Or.inl (List.mem_of_getElem? (i := 0) rfl))
  have Zs25 : n0 ≤ h25.size := by rw [W25.size]; exact Zs10
  have f26 := f14.wr W25
  have f27 := f15.other W25 (Or.inr (slot_ne (Or.inr (hw _ (List.mem_of_getElem? (i := 22) rfl))) (Or.inr (hw _ (List.mem_of_getElem? (i := 33) rfl))) (by decide) (t := (.object "com/example/nocord/nocord/model/Timestamp")) (t' := (.array .int)) (by decide) (by decide)))
  have f28 := f16.same W25
  have f29 := f17.other W25 hne
  have f30 := f18.wr W25
  have f31 := V10.other W25 (Ne.symm ne11)
  have f32 := Ex10.wr W25
  refine own_by (V := T25.setTop (mkF m 55 #[.val (.ref o0), .val (.ref o1), .val (.ref o2)] [])) st25 ?_
  refine own_by (V := T25.setTop (mkF m 56 #[.val (.ref o0), .val (.ref o1), .val (.ref o2)] [(.ref o0)])) (fun t k => XS.aloadN X25.here hx rfl (hb hby own_d_prog_47_1_55) rfl rfl k) ?_
  obtain ⟨T33, X33, e33, st33⟩ := getF X25 hx hZ hown (host := "") (Or.inl (hw _ (List.mem_of_getElem? (i := 32) rfl))) Via.refl e25 f28 (g := (mkF m 56 #[.val (.ref o0), .val (.ref o1), .val (.ref o2)] [(.ref o0)])) rfl rfl (hb hby own_d_prog_47_1_56)
  refine own_by (V := T33.setTop (mkF m 59 #[.val (.ref o0), .val (.ref o1), .val (.ref o2)] [(.ref b10)])) st33 ?_
  refine own_by (V := T33.setTop (mkF m 62 #[.val (.ref o0), .val (.ref o1), .val (.ref o2)] [])) (fun t k => XS.ifnullNo X33.here hx rfl (hb hby own_d_prog_47_1_59) rfl k) ?_
  refine own_by (V := T33.setTop (mkF m 63 #[.val (.ref o0), .val (.ref o1), .val (.ref o2)] [(.ref o0)])) (fun t k => XS.aloadN X33.here hx rfl (hb hby own_d_prog_47_1_62) rfl rfl k) ?_
  obtain ⟨T34, X34, e34, st34⟩ := getF X33 hx hZ hown (host := "") (Or.inl (hw _ (List.mem_of_getElem? (i := 32) rfl))) Via.refl e33 f28 (g := (mkF m 63 #[.val (.ref o0), .val (.ref o1), .val (.ref o2)] [(.ref o0)])) rfl rfl (hb hby own_d_prog_47_1_63)
  refine own_by (V := T34.setTop (mkF m 66 #[.val (.ref o0), .val (.ref o1), .val (.ref o2)] [(.ref b10)])) st34 ?_
  obtain ⟨_, _, ⟨T35, Lq35, kq35, nq35⟩, -, X35, ⟨Lc35, hQ35, lq35, yq35, zq35⟩, st35⟩ := Jvm.LawKit.callS X34 hx (y := (⟨"java/util/Arrays", "sort", "([I)V"⟩ : MethodName)) hown (mvT hZ (hw _ (List.mem_of_getElem? (i := 34) rfl))) (mvT hZ (hw _ (List.mem_of_getElem? (i := 35) rfl))) (mvT hZ (hw _ (List.mem_of_getElem? (i := 36) rfl))) (mvT hZ (hw _ (List.mem_of_getElem? (i := 37) rfl))) (by decide) (backOf (W := 0) (own_sort_2 l Z a0 hw [] b10 kb x0 x1 h25 n0 Zs25 f31 gn10) hZ (hw _ (List.mem_of_getElem? (i := 37) rfl)) (hw _ (List.mem_of_getElem? (i := 36) rfl)) (by decide) (by decide)) (g := (mkF m 66 #[.val (.ref o0), .val (.ref o1), .val (.ref o2)] [(.ref b10)])) rfl (by rw [hml]; rfl) (argsL := [(.ref b10)]) (rest := []) (lenOf own_pd3 rfl) rfl (by show 2 * 0 + _ ≤ _; exact Nat.le_of_eq rfl) (hb hby own_d_prog_47_1_66) (fun _ _ => ⟨rfl, e34, (by decide : 1 + 0 ≤ _), (by decide : 2 + 0 ≤ _)⟩)
  dsimp only [Pt.U, Pt.locs, Pt.cells, Pt.slots] at X35 lq35 yq35 zq35 st35 hQ35
  subst lq35 yq35 zq35
  obtain ⟨rfl, N35q, Kc35, g35_0⟩ := hQ35
  have N35 := Fr.app N25 N35q
  have f36 := f26.keep Kc35
  have f37 := f27.keep Kc35 (ninS ne11 nin0)
  have f38 := f28.keep Kc35 (ninS ne11 nin0)
  have f39 := f29.keep Kc35 (ninS ne12 nin0)
  have f40 := f30.keep Kc35
  have f42 := f32.keep Kc35
  have K35 := K25.trans Kc35 (allS (Or.inr kb10) all0)
  have Zs35 : n0 ≤ T35.heap.size := Nat.le_trans Zs25 Kc35.1
  refine own_by (V := T35.setTop (mkF m 69 #[.val (.ref o0), .val (.ref o1), .val (.ref o2)] [])) st35 ?_
  refine own_ret0 X35 hx hlk rfl Bd.returns (hb hby own_d_prog_47_1_69) ?_ (by decide) (by decide)
  exact ⟨b10, rfl, N35, K35, (kb10), f36, f37, f38, g35_0, f42⟩
def own_Q_own_hash_2 (Z : State) (o0 : Addr) (b : Addr) (kb : ClassId) (y0 : Int32) (y1 : Int32) (h0 : Heap) (n0 : Nat) : Option Value → Heap → List Loc → Prop := fun v h L => ∃ (r : Addr), v = some (.ref r) ∧ Fr n0 L ∧ Keep h0 h [] ∧ h0.size ≤ r ∧ Arv Z h r kb .int (2 : Int32) [(.int y0), (.int y1)] (.int (0 : Int32)) ∧ Exa Z h r "[I"
theorem own_ef_own_hash_2 (m : MethodId) (x0 : Addr) : entryFrame m #[(.ref x0)] 1 = mkF m 0 #[.val (.ref x0)] [] := by first | (simp [entryFrame, mkF, argsToLocals, Value.category]; done) | rfl
set_option maxRecDepth 65536 in
set_option maxHeartbeats 40000000 in
theorem own_hash_2 (l : Launch) (Z : State) (a0 : Array Value) (hw : ∀ d ∈ tables_1, d.before a0 Z = true) (ws : List Jvm.Cond) (o0 : Addr) (b : Addr) (kb : ClassId) (y0 : Int32) (y1 : Int32) (h0 : Heap) (n0 : Nat) (Z0 : n0 ≤ h0.size) (Fi : Fld Z h0 o0 "com/example/nocord/nocord/model/Snapshot" "installing" "[I" (.ref b)) (Ab : Arv Z h0 b kb .int (2 : Int32) [(.int y0), (.int y1)] (.int (0 : Int32))) (Eb : Exa Z h0 b "[I") :
    MetFree l (⟨"com/example/nocord/nocord/model/Snapshot", "installingHashes", "()[I"⟩ : MethodName) (head1 (Jvm.Cond.code (⟨"com/example/nocord/nocord/model/Snapshot", "installingHashes", "()[I"⟩ : MethodName) prog_47_method_3_code 1 (some (.array .int)) :: ws) ({ frames := 1, cells := 1, slots := 2, locals := 14 } : Room)) (fun a U => a = #[(.ref o0)] ∧ Z.Warmed39 U.vm ∧ U.heap = h0) (fun _ _ _ _ _ => True) (fun _ U o U' => ∃ v L, o = .returned v ∧ (own_Q_own_hash_2 Z o0 b kb y0 y1 h0 n0) v U'.heap L ∧ FrameEnd U o U' L ({ frames := 1, cells := 1, slots := 2, locals := 14 } : Room).cells ({ frames := 1, cells := 1, slots := 2, locals := 14 } : Room).slots) := by
  refine MetFree.of_bodySF (plainFor_of_name own_pn3) hisR ?_
  intro p e s m args below meth c s₁ Bd hml0 hP hK
  obtain ⟨rfl, hZ, hh⟩ := hP
  have hx := Bd.exec
  have hby := Bd.bytes
  have hml : c.maxLocals = 1 := hml0
  have hown : s.vm.findClass "com/example/nocord/nocord/model/Snapshot" = some m.cls := findClass_of_methodNamed Bd.named
  have hnm := (name_of_methodNamed Bd.named Bd.method).1
  have hlk : meth.locks = false := BodyLoose.notSynchronized Bd
  have X0 : Stand p l e ({ frames := 1, cells := 1, slots := 2, locals := 14 } : Room) s m #[(.ref o0)] below meth c s₁ [] 0 0 := Stand.of_body Bd
  have e0 : s₁.heap = h0 := by rw [← hh, Bd.state]; rfl
  have N0 := Fr.nil n0
  show own_Ends p e below s (own_Q_own_hash_2 Z o0 b kb y0 y1 h0 n0) ({ frames := 1, cells := 1, slots := 2, locals := 14 } : Room).cells ({ frames := 1, cells := 1, slots := 2, locals := 14 } : Room).slots _
  refine own_by (V := s₁.setTop (mkF m 0 #[.val (.ref o0)] [])) (fun t k => castTop (own_ef_own_hash_2 m o0) k) ?_
  refine own_by (V := s₁.setTop (mkF m 1 #[.val (.ref o0)] [(.ref o0)])) (fun t k => XS.aloadN X0.here hx rfl (hb hby own_d_prog_47_3_0) rfl rfl k) ?_
  obtain ⟨T1, X1, e1, st1⟩ := getF X0 hx hZ hown (host := "") (Or.inl (hw _ (List.mem_of_getElem? (i := 32) rfl))) Via.refl e0 Fi (g := (mkF m 1 #[.val (.ref o0)] [(.ref o0)])) rfl rfl (hb hby own_d_prog_47_3_1)
  refine own_by (V := T1.setTop (mkF m 4 #[.val (.ref o0)] [(.ref b)])) st1 ?_
  refine own_by (V := T1.setTop (mkF m 7 #[.val (.ref o0)] [])) (fun t k => XS.ifnullNo X1.here hx rfl (hb hby own_d_prog_47_3_4) rfl k) ?_
  refine own_by (V := T1.setTop (mkF m 8 #[.val (.ref o0)] [(.ref o0)])) (fun t k => XS.aloadN X1.here hx rfl (hb hby own_d_prog_47_3_7) rfl rfl k) ?_
  obtain ⟨T2, X2, e2, st2⟩ := getF X1 hx hZ hown (host := "") (Or.inl (hw _ (List.mem_of_getElem? (i := 32) rfl))) Via.refl e1 Fi (g := (mkF m 8 #[.val (.ref o0)] [(.ref o0)])) rfl rfl (hb hby own_d_prog_47_3_8)
  refine own_by (V := T2.setTop (mkF m 11 #[.val (.ref o0)] [(.ref b)])) st2 ?_
  obtain ⟨T3, h3, X3, e3, E3, A3, Ex3, st3⟩ := cloneH X2 hx hZ hown (hw _ (List.mem_of_getElem? (i := 23) rfl)) (hw _ (List.mem_of_getElem? (i := 24) rfl)) (hw _ (List.mem_of_getElem? (i := 28) rfl)) (hw _ (List.mem_of_getElem? (i := 26) rfl)) (hw _ (List.mem_of_getElem? (i := 27) rfl)) (hw _ (List.mem_of_getElem? (i := 29) rfl)) e2 (Arv.arh Ab) Eb (g := (mkF m 11 #[.val (.ref o0)] [(.ref b)])) rfl (by rw [hml]; rfl) rfl (hb hby own_d_prog_47_3_11) (by decide) (W := 0) (by show 2 * 0 + _ ≤ _; exact Nat.le_of_eq rfl) (by decide) (cap := 2) (by decide) (by decide) (by decide)
  obtain ⟨b3, g3⟩ : ∃ z, z = h0.size := ⟨_, rfl⟩
  rw [← g3] at A3 Ex3 st3
  have kb3 : h0.size ≤ b3 := Nat.le_trans (Keep.refl h0 []).1 (Nat.le_of_eq g3.symm)
  have ne4 : o0 ≠ b3 := Nat.ne_of_lt (Nat.lt_of_lt_of_le Fi.lt (Nat.le_of_eq g3.symm))
  have ne5 : b ≠ b3 := Nat.ne_of_lt (Nat.lt_of_lt_of_le Ab.lt (Nat.le_of_eq g3.symm))
  have f6 := Fi.ext E3
  have f7 := Ab.ext E3
  have f8 := Eb.ext E3
  have K3 := (Keep.refl h0 []).ext E3
  have V3 : Arv Z h3 b3 kb .int (2 : Int32) [(.int y0), (.int y1)] (.int (0 : Int32)) := A3
  have gn3 : n0 ≤ b3 := Nat.le_trans Z0 (Nat.le_of_eq g3.symm)
  have Zs3 : n0 ≤ h3.size := Nat.le_trans Z0 E3.1
  refine own_by (V := T3.setTop (mkF m 14 #[.val (.ref o0)] [(.ref b3)])) st3 ?_
  obtain ⟨T12, X12, e12, st12⟩ := castY X3 hx hZ hown (hw _ (List.mem_of_getElem? (i := 30) rfl)) e3 (Ins.self Ex3) (g := (mkF m 14 #[.val (.ref o0)] [(.ref b3)])) rfl rfl (hb hby own_d_prog_47_3_14)
  refine own_by (V := T12.setTop (mkF m 17 #[.val (.ref o0)] [(.ref b3)])) st12 ?_
  refine own_by (V := T12.setTop (mkF m 21 #[.val (.ref o0)] [(.ref b3)])) (fun t k => XS.goto X12.here hx rfl (pc0 := 17) (pc' := 21) rfl (hb hby own_d_prog_47_3_17) (by decide) (by decide) k) ?_
  refine own_retA X12 hx hlk e12 (w := (.ref b3)) rfl Bd.returns rfl (hb hby own_d_prog_47_3_21) ?_ (by decide) (by decide)
  exact ⟨b3, rfl, N0, K3, (kb3), V3, Ex3⟩
def own_Q_own_match_2 (Z : State) (o0 : Addr) (p2 : Int32) (p3 : Int32) (p4 : Int32) (kb : ClassId) (h0 : Heap) (n0 : Nat) : Option Value → Heap → List Loc → Prop := fun v h L => v = some (.int (1 : Int32)) ∧ Fr n0 L ∧ h = h0
theorem own_ef_own_match_2 (m : MethodId) (x0 : Addr) (x2 : Int32) (x3 : Int32) (x4 : Int32) : entryFrame m #[(.ref x0), (.int (2 : Int32)), (.int x2), (.int x3), (.int x4)] 8 = mkF m 0 #[.val (.ref x0), .val (.int (2 : Int32)), .val (.int x2), .val (.int x3), .val (.int x4), .unset, .unset, .unset] [] := by first | (simp [entryFrame, mkF, argsToLocals, Value.category]; done) | rfl
set_option maxRecDepth 65536 in
set_option maxHeartbeats 40000000 in
theorem own_match_2 (l : Launch) (Z : State) (a0 : Array Value) (hw : ∀ d ∈ tables_1, d.before a0 Z = true) (ws : List Jvm.Cond) (o0 : Addr) (p2 : Int32) (p3 : Int32) (p4 : Int32) (kb : ClassId) (h0 : Heap) (n0 : Nat) (A0 : Arv Z h0 o0 kb .int (2 : Int32) [(.int (own_min p2 p3)), (.int (own_max p2 p3))] (.int (0 : Int32))) :
    MetFree l (⟨"com/example/nocord/nocord/model/SnapshotInstallingHashesPinLaw", "matches", "([IIIII)Z"⟩ : MethodName) (head1 (Jvm.Cond.code (⟨"com/example/nocord/nocord/model/SnapshotInstallingHashesPinLaw", "matches", "([IIIII)Z"⟩ : MethodName) method_2_code 8 (some .boolean) :: ws) ({ frames := 1, cells := 0, slots := 0, locals := 14 } : Room)) (fun a U => a = #[(.ref o0), (.int (2 : Int32)), (.int p2), (.int p3), (.int p4)] ∧ Z.Warmed39 U.vm ∧ U.heap = h0) (fun _ _ _ _ _ => True) (fun _ U o U' => ∃ v L, o = .returned v ∧ (own_Q_own_match_2 Z o0 p2 p3 p4 kb h0 n0) v U'.heap L ∧ FrameEnd U o U' L ({ frames := 1, cells := 0, slots := 0, locals := 14 } : Room).cells ({ frames := 1, cells := 0, slots := 0, locals := 14 } : Room).slots) := by
  refine MetFree.of_bodySF (plainFor_of_name own_pn4) hisR ?_
  intro p e s m args below meth c s₁ Bd hml0 hP hK
  obtain ⟨rfl, hZ, hh⟩ := hP
  have hx := Bd.exec
  have hby := Bd.bytes
  have hml : c.maxLocals = 8 := hml0
  have hown : s.vm.findClass "com/example/nocord/nocord/model/SnapshotInstallingHashesPinLaw" = some m.cls := findClass_of_methodNamed Bd.named
  have hnm := (name_of_methodNamed Bd.named Bd.method).1
  have hlk : meth.locks = false := BodyLoose.notSynchronized Bd
  have X0 : Stand p l e ({ frames := 1, cells := 0, slots := 0, locals := 14 } : Room) s m #[(.ref o0), (.int (2 : Int32)), (.int p2), (.int p3), (.int p4)] below meth c s₁ [] 0 0 := Stand.of_body Bd
  have e0 : s₁.heap = h0 := by rw [← hh, Bd.state]; rfl
  have N0 := Fr.nil n0
  show own_Ends p e below s (own_Q_own_match_2 Z o0 p2 p3 p4 kb h0 n0) ({ frames := 1, cells := 0, slots := 0, locals := 14 } : Room).cells ({ frames := 1, cells := 0, slots := 0, locals := 14 } : Room).slots _
  refine own_by (V := s₁.setTop (mkF m 0 #[.val (.ref o0), .val (.int (2 : Int32)), .val (.int p2), .val (.int p3), .val (.int p4), .unset, .unset, .unset] [])) (fun t k => castTop (own_ef_own_match_2 m o0 p2 p3 p4) k) ?_
  refine own_by (V := s₁.setTop (mkF m 1 #[.val (.ref o0), .val (.int (2 : Int32)), .val (.int p2), .val (.int p3), .val (.int p4), .unset, .unset, .unset] [(.ref o0)])) (fun t k => XS.aloadN X0.here hx rfl (hb hby own_d_method_2_0) rfl rfl k) ?_
  refine own_by (V := s₁.setTop (mkF m 4 #[.val (.ref o0), .val (.int (2 : Int32)), .val (.int p2), .val (.int p3), .val (.int p4), .unset, .unset, .unset] [])) (fun t k => XS.ifnullNo X0.here hx rfl (hb hby own_d_method_2_1) rfl k) ?_
  refine own_by (V := s₁.setTop (mkF m 5 #[.val (.ref o0), .val (.int (2 : Int32)), .val (.int p2), .val (.int p3), .val (.int p4), .unset, .unset, .unset] [(.ref o0)])) (fun t k => XS.aloadN X0.here hx rfl (hb hby own_d_method_2_4) rfl rfl k) ?_
  obtain ⟨cl1, Ar1, qa1, Sa1, Ma1, Ha1, Ua1⟩ := id A0
  have hl1 := len_of Sa1 Ma1
  refine own_by (V := s₁.setTop (mkF m 6 #[.val (.ref o0), .val (.int (2 : Int32)), .val (.int p2), .val (.int p3), .val (.int p4), .unset, .unset, .unset] [(.int (2 : Int32))])) (by have q := X0.arraylength hx (cell := cl1) (by rw [e0]; exact Ar1.1) (State.isArrayOf_alike hZ.alike Ar1.2.1) (g := (mkF m 5 #[.val (.ref o0), .val (.int (2 : Int32)), .val (.int p2), .val (.int p3), .val (.int p4), .unset, .unset, .unset] [(.ref o0)])) rfl (rest := []) rfl (hb hby own_d_method_2_5); rw [hl1] at q; exact q) ?_
  refine own_by (V := s₁.setTop (mkF m 7 #[.val (.ref o0), .val (.int (2 : Int32)), .val (.int p2), .val (.int p3), .val (.int p4), .unset, .unset, .unset] [(.int (2 : Int32)), (.int (2 : Int32))])) (fun t k => XS.iloadN X0.here hx rfl (hb hby own_d_method_2_6) rfl  k) ?_
  have hb7_2 : ((2 : Int32) = (2 : Int32)) := rfl
  refine own_by (V := s₁.setTop (mkF m 12 #[.val (.ref o0), .val (.int (2 : Int32)), .val (.int p2), .val (.int p3), .val (.int p4), .unset, .unset, .unset] [])) (fun t k => XS.icmpYes X0.here hx rfl (pc0 := 7) (pc' := 12) rfl (hb hby own_d_method_2_7) rfl (teq hb7_2).1 (by decide) (by decide) k) ?_
  refine own_by (V := s₁.setTop (mkF m 13 #[.val (.ref o0), .val (.int (2 : Int32)), .val (.int p2), .val (.int p3), .val (.int p4), .unset, .unset, .unset] [(.int (2 : Int32))])) (fun t k => XS.iloadN X0.here hx rfl (hb hby own_d_method_2_12) rfl  k) ?_
  have hb13_3 : ¬ ((2 : Int32) = (0 : Int32)) := by decide
  refine own_by (V := s₁.setTop (mkF m 18 #[.val (.ref o0), .val (.int (2 : Int32)), .val (.int p2), .val (.int p3), .val (.int p4), .unset, .unset, .unset] [])) (fun t k => XS.ifYes X0.here hx rfl (pc0 := 13) (pc' := 18) rfl (hb hby own_d_method_2_13) rfl ((if0 _ _).trans (feq hb13_3).2) (by decide) (by decide) k) ?_
  refine own_by (V := s₁.setTop (mkF m 19 #[.val (.ref o0), .val (.int (2 : Int32)), .val (.int p2), .val (.int p3), .val (.int p4), .unset, .unset, .unset] [(.int (2 : Int32))])) (fun t k => XS.iloadN X0.here hx rfl (hb hby own_d_method_2_18) rfl  k) ?_
  refine own_by (V := s₁.setTop (mkF m 20 #[.val (.ref o0), .val (.int (2 : Int32)), .val (.int p2), .val (.int p3), .val (.int p4), .unset, .unset, .unset] [(.int (1 : Int32)), (.int (2 : Int32))])) (fun t k => XS.iconst X0.here hx rfl (hb hby own_d_method_2_19) k) ?_
  have hb20_4 : ¬ ((2 : Int32) = (1 : Int32)) := by decide
  refine own_by (V := s₁.setTop (mkF m 36 #[.val (.ref o0), .val (.int (2 : Int32)), .val (.int p2), .val (.int p3), .val (.int p4), .unset, .unset, .unset] [])) (fun t k => XS.icmpYes X0.here hx rfl (pc0 := 20) (pc' := 36) rfl (hb hby own_d_method_2_20) rfl (feq hb20_4).2 (by decide) (by decide) k) ?_
  refine own_by (V := s₁.setTop (mkF m 37 #[.val (.ref o0), .val (.int (2 : Int32)), .val (.int p2), .val (.int p3), .val (.int p4), .unset, .unset, .unset] [(.int (2 : Int32))])) (fun t k => XS.iloadN X0.here hx rfl (hb hby own_d_method_2_36) rfl  k) ?_
  refine own_by (V := s₁.setTop (mkF m 38 #[.val (.ref o0), .val (.int (2 : Int32)), .val (.int p2), .val (.int p3), .val (.int p4), .unset, .unset, .unset] [(.int (2 : Int32)), (.int (2 : Int32))])) (fun t k => XS.iconst X0.here hx rfl (hb hby own_d_method_2_37) k) ?_
  have hb38_5 : ((2 : Int32) = (2 : Int32)) := rfl
  refine own_by (V := s₁.setTop (mkF m 41 #[.val (.ref o0), .val (.int (2 : Int32)), .val (.int p2), .val (.int p3), .val (.int p4), .unset, .unset, .unset] [])) (fun t k => XS.icmpNo X0.here hx rfl (hb hby own_d_method_2_38) rfl (teq hb38_5).2 k) ?_
  refine own_by (V := s₁.setTop (mkF m 42 #[.val (.ref o0), .val (.int (2 : Int32)), .val (.int p2), .val (.int p3), .val (.int p4), .unset, .unset, .unset] [(.ref o0)])) (fun t k => XS.aloadN X0.here hx rfl (hb hby own_d_method_2_41) rfl rfl k) ?_
  refine own_by (V := s₁.setTop (mkF m 43 #[.val (.ref o0), .val (.int (2 : Int32)), .val (.int p2), .val (.int p3), .val (.int p4), .unset, .unset, .unset] [(.int (0 : Int32)), (.ref o0)])) (fun t k => XS.iconst X0.here hx rfl (hb hby own_d_method_2_42) k) ?_
  obtain ⟨cl6, Ar6, qa6, Sa6, Ma6, Ha6, Ua6⟩ := id A0
  have hi6 := inb_of Sa6 (j := (0 : Int32)) ⟨(by decide), (by decide)⟩
  refine own_by (V := s₁.setTop (mkF m 44 #[.val (.ref o0), .val (.int (2 : Int32)), .val (.int p2), .val (.int p3), .val (.int p4), .unset, .unset, .unset] [(.int (own_min p2 p3))])) (X0.iaload hx (j := (0 : Int32)) (v := (.int (own_min p2 p3))) (by rw [e0]; exact Ar6.1) (State.isArrayOf_alike hZ.alike Ar6.2.1) Ar6.2.2 hi6 (Has.at Ha6 hi6 rfl) (g := (mkF m 43 #[.val (.ref o0), .val (.int (2 : Int32)), .val (.int p2), .val (.int p3), .val (.int p4), .unset, .unset, .unset] [(.int (0 : Int32)), (.ref o0)])) rfl rfl (hb hby own_d_method_2_43)) ?_
  refine own_by (V := s₁.setTop (mkF m 45 #[.val (.ref o0), .val (.int (2 : Int32)), .val (.int p2), .val (.int p3), .val (.int p4), .unset, .unset, .unset] [(.int p2), (.int (own_min p2 p3))])) (fun t k => XS.iloadN X0.here hx rfl (hb hby own_d_method_2_44) rfl  k) ?_
  refine own_by (V := s₁.setTop (mkF m 46 #[.val (.ref o0), .val (.int (2 : Int32)), .val (.int p2), .val (.int p3), .val (.int p4), .unset, .unset, .unset] [(.int p3), (.int p2), (.int (own_min p2 p3))])) (fun t k => XS.iloadN X0.here hx rfl (hb hby own_d_method_2_45) rfl  k) ?_
  obtain ⟨_, _, ⟨T7, Lq7, kq7, nq7⟩, -, X7, ⟨Lc7, hQ7, lq7, yq7, zq7⟩, st7⟩ := Jvm.LawKit.callS X0 hx (y := (⟨"java/lang/Math", "min", "(II)I"⟩ : MethodName)) hown (mvT hZ (hw _ (List.mem_of_getElem? (i := 57) rfl))) (mvT hZ (hw _ (List.mem_of_getElem? (i := 58) rfl))) (mvT hZ (hw _ (List.mem_of_getElem? (i := 59) rfl))) (mvT hZ (hw _ (List.mem_of_getElem? (i := 60) rfl))) (by decide) (backOf (W := 1) (own_rmin l Z a0 hw [] p2 p3 h0 n0) hZ (hw _ (List.mem_of_getElem? (i := 60) rfl)) (hw _ (List.mem_of_getElem? (i := 59) rfl)) (by decide) (by decide)) (g := (mkF m 46 #[.val (.ref o0), .val (.int (2 : Int32)), .val (.int p2), .val (.int p3), .val (.int p4), .unset, .unset, .unset] [(.int p3), (.int p2), (.int (own_min p2 p3))])) rfl (by rw [hml]; rfl) (argsL := [(.int p2), (.int p3)]) (rest := [(.int (own_min p2 p3))]) (lenOf own_pd4 rfl) rfl (by show 2 * 0 + _ ≤ _; exact Nat.le_of_eq rfl) (hb hby own_d_method_2_46) (fun _ _ => ⟨rfl, e0, (by decide : 0 + 0 ≤ _), (by decide : 0 + 0 ≤ _)⟩)
  dsimp only [Pt.U, Pt.locs, Pt.cells, Pt.slots] at X7 lq7 yq7 zq7 st7 hQ7
  subst lq7 yq7 zq7
  obtain ⟨rfl, N7q, e7⟩ := hQ7
  have N7 := Fr.app N0 N7q
  refine own_by (V := T7.setTop (mkF m 49 #[.val (.ref o0), .val (.int (2 : Int32)), .val (.int p2), .val (.int p3), .val (.int p4), .unset, .unset, .unset] [(.int (own_min p2 p3)), (.int (own_min p2 p3))])) st7 ?_
  have hb49_8 : ((own_min p2 p3) = (own_min p2 p3)) := rfl
  refine own_by (V := T7.setTop (mkF m 52 #[.val (.ref o0), .val (.int (2 : Int32)), .val (.int p2), .val (.int p3), .val (.int p4), .unset, .unset, .unset] [])) (fun t k => XS.icmpNo X7.here hx rfl (hb hby own_d_method_2_49) rfl (teq hb49_8).2 k) ?_
  refine own_by (V := T7.setTop (mkF m 53 #[.val (.ref o0), .val (.int (2 : Int32)), .val (.int p2), .val (.int p3), .val (.int p4), .unset, .unset, .unset] [(.ref o0)])) (fun t k => XS.aloadN X7.here hx rfl (hb hby own_d_method_2_52) rfl rfl k) ?_
  refine own_by (V := T7.setTop (mkF m 54 #[.val (.ref o0), .val (.int (2 : Int32)), .val (.int p2), .val (.int p3), .val (.int p4), .unset, .unset, .unset] [(.int (1 : Int32)), (.ref o0)])) (fun t k => XS.iconst X7.here hx rfl (hb hby own_d_method_2_53) k) ?_
  obtain ⟨cl9, Ar9, qa9, Sa9, Ma9, Ha9, Ua9⟩ := id A0
  have hi9 := inb_of Sa9 (j := (1 : Int32)) ⟨(by decide), (by decide)⟩
  refine own_by (V := T7.setTop (mkF m 55 #[.val (.ref o0), .val (.int (2 : Int32)), .val (.int p2), .val (.int p3), .val (.int p4), .unset, .unset, .unset] [(.int (own_max p2 p3))])) (X7.iaload hx (j := (1 : Int32)) (v := (.int (own_max p2 p3))) (by rw [e7]; exact Ar9.1) (State.isArrayOf_alike hZ.alike Ar9.2.1) Ar9.2.2 hi9 (Has.at Ha9 hi9 rfl) (g := (mkF m 54 #[.val (.ref o0), .val (.int (2 : Int32)), .val (.int p2), .val (.int p3), .val (.int p4), .unset, .unset, .unset] [(.int (1 : Int32)), (.ref o0)])) rfl rfl (hb hby own_d_method_2_54)) ?_
  refine own_by (V := T7.setTop (mkF m 56 #[.val (.ref o0), .val (.int (2 : Int32)), .val (.int p2), .val (.int p3), .val (.int p4), .unset, .unset, .unset] [(.int p2), (.int (own_max p2 p3))])) (fun t k => XS.iloadN X7.here hx rfl (hb hby own_d_method_2_55) rfl  k) ?_
  refine own_by (V := T7.setTop (mkF m 57 #[.val (.ref o0), .val (.int (2 : Int32)), .val (.int p2), .val (.int p3), .val (.int p4), .unset, .unset, .unset] [(.int p3), (.int p2), (.int (own_max p2 p3))])) (fun t k => XS.iloadN X7.here hx rfl (hb hby own_d_method_2_56) rfl  k) ?_
  obtain ⟨_, _, ⟨T10, Lq10, kq10, nq10⟩, -, X10, ⟨Lc10, hQ10, lq10, yq10, zq10⟩, st10⟩ := Jvm.LawKit.callS X7 hx (y := (⟨"java/lang/Math", "max", "(II)I"⟩ : MethodName)) hown (mvT hZ (hw _ (List.mem_of_getElem? (i := 61) rfl))) (mvT hZ (hw _ (List.mem_of_getElem? (i := 62) rfl))) (mvT hZ (hw _ (List.mem_of_getElem? (i := 59) rfl))) (mvT hZ (hw _ (List.mem_of_getElem? (i := 63) rfl))) (by decide) (backOf (W := 1) (own_rmax l Z a0 hw [] p2 p3 h0 n0) hZ (hw _ (List.mem_of_getElem? (i := 63) rfl)) (hw _ (List.mem_of_getElem? (i := 59) rfl)) (by decide) (by decide)) (g := (mkF m 57 #[.val (.ref o0), .val (.int (2 : Int32)), .val (.int p2), .val (.int p3), .val (.int p4), .unset, .unset, .unset] [(.int p3), (.int p2), (.int (own_max p2 p3))])) rfl (by rw [hml]; rfl) (argsL := [(.int p2), (.int p3)]) (rest := [(.int (own_max p2 p3))]) (lenOf own_pd4 rfl) rfl (by show 2 * 0 + _ ≤ _; exact Nat.le_of_eq rfl) (hb hby own_d_method_2_57) (fun _ _ => ⟨rfl, e7, (by decide : 0 + 0 ≤ _), (by decide : 0 + 0 ≤ _)⟩)
  dsimp only [Pt.U, Pt.locs, Pt.cells, Pt.slots] at X10 lq10 yq10 zq10 st10 hQ10
  subst lq10 yq10 zq10
  obtain ⟨rfl, N10q, e10⟩ := hQ10
  have N10 := Fr.app N7 N10q
  refine own_by (V := T10.setTop (mkF m 60 #[.val (.ref o0), .val (.int (2 : Int32)), .val (.int p2), .val (.int p3), .val (.int p4), .unset, .unset, .unset] [(.int (own_max p2 p3)), (.int (own_max p2 p3))])) st10 ?_
  have hb60_11 : ((own_max p2 p3) = (own_max p2 p3)) := rfl
  refine own_by (V := T10.setTop (mkF m 63 #[.val (.ref o0), .val (.int (2 : Int32)), .val (.int p2), .val (.int p3), .val (.int p4), .unset, .unset, .unset] [])) (fun t k => XS.icmpNo X10.here hx rfl (hb hby own_d_method_2_60) rfl (teq hb60_11).2 k) ?_
  refine own_by (V := T10.setTop (mkF m 64 #[.val (.ref o0), .val (.int (2 : Int32)), .val (.int p2), .val (.int p3), .val (.int p4), .unset, .unset, .unset] [(.int (1 : Int32))])) (fun t k => XS.iconst X10.here hx rfl (hb hby own_d_method_2_63) k) ?_
  refine own_by (V := T10.setTop (mkF m 68 #[.val (.ref o0), .val (.int (2 : Int32)), .val (.int p2), .val (.int p3), .val (.int p4), .unset, .unset, .unset] [(.int (1 : Int32))])) (fun t k => XS.goto X10.here hx rfl (pc0 := 64) (pc' := 68) rfl (hb hby own_d_method_2_64) (by decide) (by decide) k) ?_
  refine own_retN X10 hx hlk e10 Bd.returns (t := .boolean) (by simp) rfl (hb hby own_d_method_2_68) ?_ (by decide) (by decide)
  exact ⟨congrArg (fun z => some (Value.int z)) (show (1 : Int32) = (1 : Int32) from by rfl), N10, rfl⟩
def own_Q_own_ins_3 (Z : State) (o0 : Addr) (kb : ClassId) (x0 : Int32) (x1 : Int32) (x2 : Int32) (h0 : Heap) (n0 : Nat) : Option Value → Heap → List Loc → Prop := fun v h L => v = none ∧ Fr n0 L ∧ Keep h0 h [o0] ∧ Arv Z h o0 kb .int (3 : Int32) [(.int (own_min (own_min x0 x1) x2)), (.int (own_max (own_min x0 x1) (own_min (own_max x0 x1) x2))), (.int (own_max (own_max x0 x1) x2))] (.int (0 : Int32))
theorem own_ef_own_ins_3 (m : MethodId) (x0 : Addr) : entryFrame m #[(.ref x0), (.int (0 : Int32)), (.int (3 : Int32))] 6 = mkF m 0 #[.val (.ref x0), .val (.int (0 : Int32)), .val (.int (3 : Int32)), .unset, .unset, .unset] [] := by first | (simp [entryFrame, mkF, argsToLocals, Value.category]; done) | rfl
set_option maxRecDepth 65536 in
set_option maxHeartbeats 40000000 in
theorem own_ins_3 (l : Launch) (Z : State) (a0 : Array Value) (hw : ∀ d ∈ tables_1, d.before a0 Z = true) (ws : List Jvm.Cond) (o0 : Addr) (kb : ClassId) (x0 : Int32) (x1 : Int32) (x2 : Int32) (h0 : Heap) (n0 : Nat) (Z0 : n0 ≤ h0.size) (A0 : Arv Z h0 o0 kb .int (3 : Int32) [(.int x0), (.int x1), (.int x2)] (.int (0 : Int32))) (g0 : n0 ≤ o0) :
    MetFree l (⟨"java/util/DualPivotQuicksort", "insertionSort", "([III)V"⟩ : MethodName) (head1 (Jvm.Cond.code (⟨"java/util/DualPivotQuicksort", "insertionSort", "([III)V"⟩ : MethodName) jdk_2529_method_6_code 6 none :: ws) ({ frames := 0, cells := 0, slots := 0, locals := 0 } : Room)) (fun a U => a = #[(.ref o0), (.int (0 : Int32)), (.int (3 : Int32))] ∧ Z.Warmed39 U.vm ∧ U.heap = h0) (fun _ _ _ _ _ => True) (fun _ U o U' => ∃ v L, o = .returned v ∧ (own_Q_own_ins_3 Z o0 kb x0 x1 x2 h0 n0) v U'.heap L ∧ FrameEnd U o U' L ({ frames := 0, cells := 0, slots := 0, locals := 0 } : Room).cells ({ frames := 0, cells := 0, slots := 0, locals := 0 } : Room).slots) := by
  refine MetFree.of_bodySF (plainFor_of_name own_pn1) hisR ?_
  intro p e s m args below meth c s₁ Bd hml0 hP hK
  obtain ⟨rfl, hZ, hh⟩ := hP
  have hx := Bd.exec
  have hby := Bd.bytes
  have hml : c.maxLocals = 6 := hml0
  have hown : s.vm.findClass "java/util/DualPivotQuicksort" = some m.cls := findClass_of_methodNamed Bd.named
  have hnm := (name_of_methodNamed Bd.named Bd.method).1
  have hlk : meth.locks = false := BodyLoose.notSynchronized Bd
  have X0 : Stand p l e ({ frames := 0, cells := 0, slots := 0, locals := 0 } : Room) s m #[(.ref o0), (.int (0 : Int32)), (.int (3 : Int32))] below meth c s₁ [] 0 0 := Stand.of_body Bd
  have e0 : s₁.heap = h0 := by rw [← hh, Bd.state]; rfl
  have N0 := Fr.nil n0
  show own_Ends p e below s (own_Q_own_ins_3 Z o0 kb x0 x1 x2 h0 n0) ({ frames := 0, cells := 0, slots := 0, locals := 0 } : Room).cells ({ frames := 0, cells := 0, slots := 0, locals := 0 } : Room).slots _
  refine own_by (V := s₁.setTop (mkF m 0 #[.val (.ref o0), .val (.int (0 : Int32)), .val (.int (3 : Int32)), .unset, .unset, .unset] [])) (fun t k => castTop (own_ef_own_ins_3 m o0) k) ?_
  refine own_by (V := s₁.setTop (mkF m 1 #[.val (.ref o0), .val (.int (0 : Int32)), .val (.int (3 : Int32)), .unset, .unset, .unset] [(.int (0 : Int32))])) (fun t k => XS.iloadN X0.here hx rfl (hb hby own_d_jdk_2529_6_0) rfl  k) ?_
  refine own_by (V := s₁.setTop (mkF m 3 #[.val (.ref o0), .val (.int (0 : Int32)), .val (.int (3 : Int32)), .unset, .val (.int (0 : Int32)), .unset] [])) (fun t k => XS.istore X0.here hx rfl (hb hby own_d_jdk_2529_6_1) rfl (l' := #[.val (.ref o0), .val (.int (0 : Int32)), .val (.int (3 : Int32)), .unset, .val (.int (0 : Int32)), .unset]) rfl k) ?_
  refine own_by (V := s₁.setTop (mkF m 6 #[.val (.ref o0), .val (.int (0 : Int32)), .val (.int (3 : Int32)), .unset, .val (.int (1 : Int32)), .unset] [])) (fun t k => XS.iinc X0.here hx rfl (hb hby own_d_jdk_2529_6_3) rfl (l' := #[.val (.ref o0), .val (.int (0 : Int32)), .val (.int (3 : Int32)), .unset, .val (.int (1 : Int32)), .unset]) rfl k) ?_
  refine own_by (V := s₁.setTop (mkF m 8 #[.val (.ref o0), .val (.int (0 : Int32)), .val (.int (3 : Int32)), .unset, .val (.int (1 : Int32)), .unset] [(.int (1 : Int32))])) (fun t k => XS.iload X0.here hx rfl (hb hby own_d_jdk_2529_6_6) rfl  k) ?_
  refine own_by (V := s₁.setTop (mkF m 9 #[.val (.ref o0), .val (.int (0 : Int32)), .val (.int (3 : Int32)), .unset, .val (.int (1 : Int32)), .unset] [(.int (3 : Int32)), (.int (1 : Int32))])) (fun t k => XS.iloadN X0.here hx rfl (hb hby own_d_jdk_2529_6_8) rfl  k) ?_
  have hb9_1 : ((1 : Int32) < (3 : Int32)) := by decide
  refine own_by (V := s₁.setTop (mkF m 12 #[.val (.ref o0), .val (.int (0 : Int32)), .val (.int (3 : Int32)), .unset, .val (.int (1 : Int32)), .unset] [])) (fun t k => XS.icmpNo X0.here hx rfl (hb hby own_d_jdk_2529_6_9) rfl (tlt hb9_1).2.1 k) ?_
  refine own_by (V := s₁.setTop (mkF m 13 #[.val (.ref o0), .val (.int (0 : Int32)), .val (.int (3 : Int32)), .unset, .val (.int (1 : Int32)), .unset] [(.ref o0)])) (fun t k => XS.aloadN X0.here hx rfl (hb hby own_d_jdk_2529_6_12) rfl rfl k) ?_
  refine own_by (V := s₁.setTop (mkF m 15 #[.val (.ref o0), .val (.int (0 : Int32)), .val (.int (3 : Int32)), .unset, .val (.int (1 : Int32)), .unset] [(.int (1 : Int32)), (.ref o0)])) (fun t k => XS.iload X0.here hx rfl (hb hby own_d_jdk_2529_6_13) rfl  k) ?_
  refine own_by (V := s₁.setTop (mkF m 16 #[.val (.ref o0), .val (.int (0 : Int32)), .val (.int (3 : Int32)), .unset, .val (.int (1 : Int32)), .unset] [(.int (1 : Int32)), (.int (1 : Int32)), (.ref o0)])) (fun t k => XS.dup X0.here hx rfl (hb hby own_d_jdk_2529_6_15) rfl rfl k) ?_
  refine own_by (V := s₁.setTop (mkF m 17 #[.val (.ref o0), .val (.int (0 : Int32)), .val (.int (3 : Int32)), .val (.int (1 : Int32)), .val (.int (1 : Int32)), .unset] [(.int (1 : Int32)), (.ref o0)])) (fun t k => XS.istoreN X0.here hx rfl (hb hby own_d_jdk_2529_6_16) rfl (l' := #[.val (.ref o0), .val (.int (0 : Int32)), .val (.int (3 : Int32)), .val (.int (1 : Int32)), .val (.int (1 : Int32)), .unset]) rfl k) ?_
  obtain ⟨cl2, Ar2, qa2, Sa2, Ma2, Ha2, Ua2⟩ := id A0
  have hi2 := inb_of Sa2 (j := (1 : Int32)) ⟨(by decide), (by decide)⟩
  refine own_by (V := s₁.setTop (mkF m 18 #[.val (.ref o0), .val (.int (0 : Int32)), .val (.int (3 : Int32)), .val (.int (1 : Int32)), .val (.int (1 : Int32)), .unset] [(.int x1)])) (X0.iaload hx (j := (1 : Int32)) (v := (.int x1)) (by rw [e0]; exact Ar2.1) (State.isArrayOf_alike hZ.alike Ar2.2.1) Ar2.2.2 hi2 (Has.at Ha2 hi2 rfl) (g := (mkF m 17 #[.val (.ref o0), .val (.int (0 : Int32)), .val (.int (3 : Int32)), .val (.int (1 : Int32)), .val (.int (1 : Int32)), .unset] [(.int (1 : Int32)), (.ref o0)])) rfl rfl (hb hby own_d_jdk_2529_6_17)) ?_
  refine own_by (V := s₁.setTop (mkF m 20 #[.val (.ref o0), .val (.int (0 : Int32)), .val (.int (3 : Int32)), .val (.int (1 : Int32)), .val (.int (1 : Int32)), .val (.int x1)] [])) (fun t k => XS.istore X0.here hx rfl (hb hby own_d_jdk_2529_6_18) rfl (l' := #[.val (.ref o0), .val (.int (0 : Int32)), .val (.int (3 : Int32)), .val (.int (1 : Int32)), .val (.int (1 : Int32)), .val (.int x1)]) rfl k) ?_
  refine own_by (V := s₁.setTop (mkF m 22 #[.val (.ref o0), .val (.int (0 : Int32)), .val (.int (3 : Int32)), .val (.int (1 : Int32)), .val (.int (1 : Int32)), .val (.int x1)] [(.int x1)])) (fun t k => XS.iload X0.here hx rfl (hb hby own_d_jdk_2529_6_20) rfl  k) ?_
  refine own_by (V := s₁.setTop (mkF m 23 #[.val (.ref o0), .val (.int (0 : Int32)), .val (.int (3 : Int32)), .val (.int (1 : Int32)), .val (.int (1 : Int32)), .val (.int x1)] [(.ref o0), (.int x1)])) (fun t k => XS.aloadN X0.here hx rfl (hb hby own_d_jdk_2529_6_22) rfl rfl k) ?_
  refine own_by (V := s₁.setTop (mkF m 24 #[.val (.ref o0), .val (.int (0 : Int32)), .val (.int (3 : Int32)), .val (.int (1 : Int32)), .val (.int (1 : Int32)), .val (.int x1)] [(.int (1 : Int32)), (.ref o0), (.int x1)])) (fun t k => XS.iloadN X0.here hx rfl (hb hby own_d_jdk_2529_6_23) rfl  k) ?_
  refine own_by (V := s₁.setTop (mkF m 25 #[.val (.ref o0), .val (.int (0 : Int32)), .val (.int (3 : Int32)), .val (.int (1 : Int32)), .val (.int (1 : Int32)), .val (.int x1)] [(.int (1 : Int32)), (.int (1 : Int32)), (.ref o0), (.int x1)])) (fun t k => XS.iconst X0.here hx rfl (hb hby own_d_jdk_2529_6_24) k) ?_
  refine own_by (V := s₁.setTop (mkF m 26 #[.val (.ref o0), .val (.int (0 : Int32)), .val (.int (3 : Int32)), .val (.int (1 : Int32)), .val (.int (1 : Int32)), .val (.int x1)] [(.int (0 : Int32)), (.ref o0), (.int x1)])) (fun t k => XS.isub X0.here hx rfl (hb hby own_d_jdk_2529_6_25) rfl k) ?_
  obtain ⟨cl3, Ar3, qa3, Sa3, Ma3, Ha3, Ua3⟩ := id A0
  have hi3 := inb_of Sa3 (j := (0 : Int32)) ⟨(by decide), (by decide)⟩
  refine own_by (V := s₁.setTop (mkF m 27 #[.val (.ref o0), .val (.int (0 : Int32)), .val (.int (3 : Int32)), .val (.int (1 : Int32)), .val (.int (1 : Int32)), .val (.int x1)] [(.int x0), (.int x1)])) (X0.iaload hx (j := (0 : Int32)) (v := (.int x0)) (by rw [e0]; exact Ar3.1) (State.isArrayOf_alike hZ.alike Ar3.2.1) Ar3.2.2 hi3 (Has.at Ha3 hi3 rfl) (g := (mkF m 26 #[.val (.ref o0), .val (.int (0 : Int32)), .val (.int (3 : Int32)), .val (.int (1 : Int32)), .val (.int (1 : Int32)), .val (.int x1)] [(.int (0 : Int32)), (.ref o0), (.int x1)])) rfl rfl (hb hby own_d_jdk_2529_6_26)) ?_
  by_cases hb27_4 : x1 < x0
  · refine own_by (V := s₁.setTop (mkF m 30 #[.val (.ref o0), .val (.int (0 : Int32)), .val (.int (3 : Int32)), .val (.int (1 : Int32)), .val (.int (1 : Int32)), .val (.int x1)] [])) (fun t k => XS.icmpNo X0.here hx rfl (hb hby own_d_jdk_2529_6_27) rfl (tlt hb27_4).2.1 k) ?_
    refine own_by (V := s₁.setTop (mkF m 33 #[.val (.ref o0), .val (.int (0 : Int32)), .val (.int (3 : Int32)), .val (.int (0 : Int32)), .val (.int (1 : Int32)), .val (.int x1)] [])) (fun t k => XS.iinc X0.here hx rfl (hb hby own_d_jdk_2529_6_30) rfl (l' := #[.val (.ref o0), .val (.int (0 : Int32)), .val (.int (3 : Int32)), .val (.int (0 : Int32)), .val (.int (1 : Int32)), .val (.int x1)]) rfl k) ?_
    refine own_by (V := s₁.setTop (mkF m 34 #[.val (.ref o0), .val (.int (0 : Int32)), .val (.int (3 : Int32)), .val (.int (0 : Int32)), .val (.int (1 : Int32)), .val (.int x1)] [(.int (0 : Int32))])) (fun t k => XS.iloadN X0.here hx rfl (hb hby own_d_jdk_2529_6_33) rfl  k) ?_
    refine own_by (V := s₁.setTop (mkF m 35 #[.val (.ref o0), .val (.int (0 : Int32)), .val (.int (3 : Int32)), .val (.int (0 : Int32)), .val (.int (1 : Int32)), .val (.int x1)] [(.int (0 : Int32)), (.int (0 : Int32))])) (fun t k => XS.iloadN X0.here hx rfl (hb hby own_d_jdk_2529_6_34) rfl  k) ?_
    have hb35_5 : ¬ ((0 : Int32) < (0 : Int32)) := by decide
    refine own_by (V := s₁.setTop (mkF m 38 #[.val (.ref o0), .val (.int (0 : Int32)), .val (.int (3 : Int32)), .val (.int (0 : Int32)), .val (.int (1 : Int32)), .val (.int x1)] [])) (fun t k => XS.icmpNo X0.here hx rfl (hb hby own_d_jdk_2529_6_35) rfl (flt hb35_5).1 k) ?_
    refine own_by (V := s₁.setTop (mkF m 40 #[.val (.ref o0), .val (.int (0 : Int32)), .val (.int (3 : Int32)), .val (.int (0 : Int32)), .val (.int (1 : Int32)), .val (.int x1)] [(.int x1)])) (fun t k => XS.iload X0.here hx rfl (hb hby own_d_jdk_2529_6_38) rfl  k) ?_
    refine own_by (V := s₁.setTop (mkF m 41 #[.val (.ref o0), .val (.int (0 : Int32)), .val (.int (3 : Int32)), .val (.int (0 : Int32)), .val (.int (1 : Int32)), .val (.int x1)] [(.ref o0), (.int x1)])) (fun t k => XS.aloadN X0.here hx rfl (hb hby own_d_jdk_2529_6_40) rfl rfl k) ?_
    refine own_by (V := s₁.setTop (mkF m 42 #[.val (.ref o0), .val (.int (0 : Int32)), .val (.int (3 : Int32)), .val (.int (0 : Int32)), .val (.int (1 : Int32)), .val (.int x1)] [(.int (0 : Int32)), (.ref o0), (.int x1)])) (fun t k => XS.iloadN X0.here hx rfl (hb hby own_d_jdk_2529_6_41) rfl  k) ?_
    obtain ⟨cl6, Ar6, qa6, Sa6, Ma6, Ha6, Ua6⟩ := id A0
    have hi6 := inb_of Sa6 (j := (0 : Int32)) ⟨(by decide), (by decide)⟩
    refine own_by (V := s₁.setTop (mkF m 43 #[.val (.ref o0), .val (.int (0 : Int32)), .val (.int (3 : Int32)), .val (.int (0 : Int32)), .val (.int (1 : Int32)), .val (.int x1)] [(.int x0), (.int x1)])) (X0.iaload hx (j := (0 : Int32)) (v := (.int x0)) (by rw [e0]; exact Ar6.1) (State.isArrayOf_alike hZ.alike Ar6.2.1) Ar6.2.2 hi6 (Has.at Ha6 hi6 rfl) (g := (mkF m 42 #[.val (.ref o0), .val (.int (0 : Int32)), .val (.int (3 : Int32)), .val (.int (0 : Int32)), .val (.int (1 : Int32)), .val (.int x1)] [(.int (0 : Int32)), (.ref o0), (.int x1)])) rfl rfl (hb hby own_d_jdk_2529_6_42)) ?_
    by_cases hb43_7 : x1 < x0
    · refine own_by (V := s₁.setTop (mkF m 46 #[.val (.ref o0), .val (.int (0 : Int32)), .val (.int (3 : Int32)), .val (.int (0 : Int32)), .val (.int (1 : Int32)), .val (.int x1)] [])) (fun t k => XS.icmpNo X0.here hx rfl (hb hby own_d_jdk_2529_6_43) rfl (tlt hb43_7).2.1 k) ?_
      refine own_by (V := s₁.setTop (mkF m 47 #[.val (.ref o0), .val (.int (0 : Int32)), .val (.int (3 : Int32)), .val (.int (0 : Int32)), .val (.int (1 : Int32)), .val (.int x1)] [(.ref o0)])) (fun t k => XS.aloadN X0.here hx rfl (hb hby own_d_jdk_2529_6_46) rfl rfl k) ?_
      refine own_by (V := s₁.setTop (mkF m 48 #[.val (.ref o0), .val (.int (0 : Int32)), .val (.int (3 : Int32)), .val (.int (0 : Int32)), .val (.int (1 : Int32)), .val (.int x1)] [(.int (0 : Int32)), (.ref o0)])) (fun t k => XS.iloadN X0.here hx rfl (hb hby own_d_jdk_2529_6_47) rfl  k) ?_
      refine own_by (V := s₁.setTop (mkF m 49 #[.val (.ref o0), .val (.int (0 : Int32)), .val (.int (3 : Int32)), .val (.int (0 : Int32)), .val (.int (1 : Int32)), .val (.int x1)] [(.int (1 : Int32)), (.int (0 : Int32)), (.ref o0)])) (fun t k => XS.iconst X0.here hx rfl (hb hby own_d_jdk_2529_6_48) k) ?_
      refine own_by (V := s₁.setTop (mkF m 50 #[.val (.ref o0), .val (.int (0 : Int32)), .val (.int (3 : Int32)), .val (.int (0 : Int32)), .val (.int (1 : Int32)), .val (.int x1)] [(.int (1 : Int32)), (.ref o0)])) (fun t k => XS.iadd X0.here hx rfl (hb hby own_d_jdk_2529_6_49) rfl k) ?_
      refine own_by (V := s₁.setTop (mkF m 51 #[.val (.ref o0), .val (.int (0 : Int32)), .val (.int (3 : Int32)), .val (.int (0 : Int32)), .val (.int (1 : Int32)), .val (.int x1)] [(.ref o0), (.int (1 : Int32)), (.ref o0)])) (fun t k => XS.aloadN X0.here hx rfl (hb hby own_d_jdk_2529_6_50) rfl rfl k) ?_
      refine own_by (V := s₁.setTop (mkF m 52 #[.val (.ref o0), .val (.int (0 : Int32)), .val (.int (3 : Int32)), .val (.int (0 : Int32)), .val (.int (1 : Int32)), .val (.int x1)] [(.int (0 : Int32)), (.ref o0), (.int (1 : Int32)), (.ref o0)])) (fun t k => XS.iloadN X0.here hx rfl (hb hby own_d_jdk_2529_6_51) rfl  k) ?_
      obtain ⟨cl8, Ar8, qa8, Sa8, Ma8, Ha8, Ua8⟩ := id A0
      have hi8 := inb_of Sa8 (j := (0 : Int32)) ⟨(by decide), (by decide)⟩
      refine own_by (V := s₁.setTop (mkF m 53 #[.val (.ref o0), .val (.int (0 : Int32)), .val (.int (3 : Int32)), .val (.int (0 : Int32)), .val (.int (1 : Int32)), .val (.int x1)] [(.int x0), (.int (1 : Int32)), (.ref o0)])) (X0.iaload hx (j := (0 : Int32)) (v := (.int x0)) (by rw [e0]; exact Ar8.1) (State.isArrayOf_alike hZ.alike Ar8.2.1) Ar8.2.2 hi8 (Has.at Ha8 hi8 rfl) (g := (mkF m 52 #[.val (.ref o0), .val (.int (0 : Int32)), .val (.int (3 : Int32)), .val (.int (0 : Int32)), .val (.int (1 : Int32)), .val (.int x1)] [(.int (0 : Int32)), (.ref o0), (.int (1 : Int32)), (.ref o0)])) rfl rfl (hb hby own_d_jdk_2529_6_52)) ?_
      obtain ⟨cl9, Ar9, qa9, Sa9, Ma9, Ha9, Ua9⟩ := id A0
      obtain ⟨T10, h10, X10, e10, W10, st10⟩ := stI X0 hx hZ e0 Ar9 (j := (1 : Int32)) (inb_of Sa9 ⟨(by decide), (by decide)⟩) (g := (mkF m 53 #[.val (.ref o0), .val (.int (0 : Int32)), .val (.int (3 : Int32)), .val (.int (0 : Int32)), .val (.int (1 : Int32)), .val (.int x1)] [(.int x0), (.int (1 : Int32)), (.ref o0)])) rfl rfl (hb hby own_d_jdk_2529_6_53)
      have N10 := Fr.snoc X10 N0 g0
      have K10 := (Keep.refl h0 [o0]).wr W10 (Or.inl (List.mem_of_getElem? (i := 0) rfl))
      have Zs10 : n0 ≤ h10.size := by rw [W10.size]; exact Z0
      have V10 : Arv Z h10 o0 kb .int (3 : Int32) [(.int x0), (.int x0), (.int x2)] (.int (0 : Int32)) := Arv.set Ar9 qa9 Sa9 Ma9 Ha9 Ua9 rfl W10 1 (by decide) (by simp)
      refine own_by (V := T10.setTop (mkF m 54 #[.val (.ref o0), .val (.int (0 : Int32)), .val (.int (3 : Int32)), .val (.int (0 : Int32)), .val (.int (1 : Int32)), .val (.int x1)] [])) st10 ?_
      refine own_by (V := T10.setTop (mkF m 30 #[.val (.ref o0), .val (.int (0 : Int32)), .val (.int (3 : Int32)), .val (.int (0 : Int32)), .val (.int (1 : Int32)), .val (.int x1)] [])) (fun t k => XS.goto X10.here hx rfl (pc0 := 54) (pc' := 30) rfl (hb hby own_d_jdk_2529_6_54) (by decide) (by decide) k) ?_
      refine own_by (V := T10.setTop (mkF m 33 #[.val (.ref o0), .val (.int (0 : Int32)), .val (.int (3 : Int32)), .val (.int (-1 : Int32)), .val (.int (1 : Int32)), .val (.int x1)] [])) (fun t k => XS.iinc X10.here hx rfl (hb hby own_d_jdk_2529_6_30) rfl (l' := #[.val (.ref o0), .val (.int (0 : Int32)), .val (.int (3 : Int32)), .val (.int (-1 : Int32)), .val (.int (1 : Int32)), .val (.int x1)]) rfl k) ?_
      refine own_by (V := T10.setTop (mkF m 34 #[.val (.ref o0), .val (.int (0 : Int32)), .val (.int (3 : Int32)), .val (.int (-1 : Int32)), .val (.int (1 : Int32)), .val (.int x1)] [(.int (-1 : Int32))])) (fun t k => XS.iloadN X10.here hx rfl (hb hby own_d_jdk_2529_6_33) rfl  k) ?_
      refine own_by (V := T10.setTop (mkF m 35 #[.val (.ref o0), .val (.int (0 : Int32)), .val (.int (3 : Int32)), .val (.int (-1 : Int32)), .val (.int (1 : Int32)), .val (.int x1)] [(.int (0 : Int32)), (.int (-1 : Int32))])) (fun t k => XS.iloadN X10.here hx rfl (hb hby own_d_jdk_2529_6_34) rfl  k) ?_
      have hb35_11 : ((-1 : Int32) < (0 : Int32)) := by decide
      refine own_by (V := T10.setTop (mkF m 57 #[.val (.ref o0), .val (.int (0 : Int32)), .val (.int (3 : Int32)), .val (.int (-1 : Int32)), .val (.int (1 : Int32)), .val (.int x1)] [])) (fun t k => XS.icmpYes X10.here hx rfl (pc0 := 35) (pc' := 57) rfl (hb hby own_d_jdk_2529_6_35) rfl (tlt hb35_11).1 (by decide) (by decide) k) ?_
      refine own_by (V := T10.setTop (mkF m 58 #[.val (.ref o0), .val (.int (0 : Int32)), .val (.int (3 : Int32)), .val (.int (-1 : Int32)), .val (.int (1 : Int32)), .val (.int x1)] [(.ref o0)])) (fun t k => XS.aloadN X10.here hx rfl (hb hby own_d_jdk_2529_6_57) rfl rfl k) ?_
      refine own_by (V := T10.setTop (mkF m 59 #[.val (.ref o0), .val (.int (0 : Int32)), .val (.int (3 : Int32)), .val (.int (-1 : Int32)), .val (.int (1 : Int32)), .val (.int x1)] [(.int (-1 : Int32)), (.ref o0)])) (fun t k => XS.iloadN X10.here hx rfl (hb hby own_d_jdk_2529_6_58) rfl  k) ?_
      refine own_by (V := T10.setTop (mkF m 60 #[.val (.ref o0), .val (.int (0 : Int32)), .val (.int (3 : Int32)), .val (.int (-1 : Int32)), .val (.int (1 : Int32)), .val (.int x1)] [(.int (1 : Int32)), (.int (-1 : Int32)), (.ref o0)])) (fun t k => XS.iconst X10.here hx rfl (hb hby own_d_jdk_2529_6_59) k) ?_
      refine own_by (V := T10.setTop (mkF m 61 #[.val (.ref o0), .val (.int (0 : Int32)), .val (.int (3 : Int32)), .val (.int (-1 : Int32)), .val (.int (1 : Int32)), .val (.int x1)] [(.int (0 : Int32)), (.ref o0)])) (fun t k => XS.iadd X10.here hx rfl (hb hby own_d_jdk_2529_6_60) rfl k) ?_
      refine own_by (V := T10.setTop (mkF m 63 #[.val (.ref o0), .val (.int (0 : Int32)), .val (.int (3 : Int32)), .val (.int (-1 : Int32)), .val (.int (1 : Int32)), .val (.int x1)] [(.int x1), (.int (0 : Int32)), (.ref o0)])) (fun t k => XS.iload X10.here hx rfl (hb hby own_d_jdk_2529_6_61) rfl  k) ?_
      obtain ⟨cl12, Ar12, qa12, Sa12, Ma12, Ha12, Ua12⟩ := id V10
      obtain ⟨T13, h13, X13, e13, W13, st13⟩ := stI X10 hx hZ e10 Ar12 (j := (0 : Int32)) (inb_of Sa12 ⟨(by decide), (by decide)⟩) (g := (mkF m 63 #[.val (.ref o0), .val (.int (0 : Int32)), .val (.int (3 : Int32)), .val (.int (-1 : Int32)), .val (.int (1 : Int32)), .val (.int x1)] [(.int x1), (.int (0 : Int32)), (.ref o0)])) rfl rfl (hb hby own_d_jdk_2529_6_63)
      have N13 := Fr.snoc X13 N10 g0
      have K13 := K10.wr W13 (Or.inl (List.mem_of_getElem? (i := 0) rfl))
      have Zs13 : n0 ≤ h13.size := by rw [W13.size]; exact Zs10
      have V13 : Arv Z h13 o0 kb .int (3 : Int32) [(.int x1), (.int x0), (.int x2)] (.int (0 : Int32)) := Arv.set Ar12 qa12 Sa12 Ma12 Ha12 Ua12 rfl W13 0 (by decide) (by simp)
      refine own_by (V := T13.setTop (mkF m 64 #[.val (.ref o0), .val (.int (0 : Int32)), .val (.int (3 : Int32)), .val (.int (-1 : Int32)), .val (.int (1 : Int32)), .val (.int x1)] [])) st13 ?_
      refine own_by (V := T13.setTop (mkF m 3 #[.val (.ref o0), .val (.int (0 : Int32)), .val (.int (3 : Int32)), .val (.int (-1 : Int32)), .val (.int (1 : Int32)), .val (.int x1)] [])) (fun t k => XS.goto X13.here hx rfl (pc0 := 64) (pc' := 3) rfl (hb hby own_d_jdk_2529_6_64) (by decide) (by decide) k) ?_
      refine own_by (V := T13.setTop (mkF m 6 #[.val (.ref o0), .val (.int (0 : Int32)), .val (.int (3 : Int32)), .val (.int (-1 : Int32)), .val (.int (2 : Int32)), .val (.int x1)] [])) (fun t k => XS.iinc X13.here hx rfl (hb hby own_d_jdk_2529_6_3) rfl (l' := #[.val (.ref o0), .val (.int (0 : Int32)), .val (.int (3 : Int32)), .val (.int (-1 : Int32)), .val (.int (2 : Int32)), .val (.int x1)]) rfl k) ?_
      refine own_by (V := T13.setTop (mkF m 8 #[.val (.ref o0), .val (.int (0 : Int32)), .val (.int (3 : Int32)), .val (.int (-1 : Int32)), .val (.int (2 : Int32)), .val (.int x1)] [(.int (2 : Int32))])) (fun t k => XS.iload X13.here hx rfl (hb hby own_d_jdk_2529_6_6) rfl  k) ?_
      refine own_by (V := T13.setTop (mkF m 9 #[.val (.ref o0), .val (.int (0 : Int32)), .val (.int (3 : Int32)), .val (.int (-1 : Int32)), .val (.int (2 : Int32)), .val (.int x1)] [(.int (3 : Int32)), (.int (2 : Int32))])) (fun t k => XS.iloadN X13.here hx rfl (hb hby own_d_jdk_2529_6_8) rfl  k) ?_
      have hb9_14 : ((2 : Int32) < (3 : Int32)) := by decide
      refine own_by (V := T13.setTop (mkF m 12 #[.val (.ref o0), .val (.int (0 : Int32)), .val (.int (3 : Int32)), .val (.int (-1 : Int32)), .val (.int (2 : Int32)), .val (.int x1)] [])) (fun t k => XS.icmpNo X13.here hx rfl (hb hby own_d_jdk_2529_6_9) rfl (tlt hb9_14).2.1 k) ?_
      refine own_by (V := T13.setTop (mkF m 13 #[.val (.ref o0), .val (.int (0 : Int32)), .val (.int (3 : Int32)), .val (.int (-1 : Int32)), .val (.int (2 : Int32)), .val (.int x1)] [(.ref o0)])) (fun t k => XS.aloadN X13.here hx rfl (hb hby own_d_jdk_2529_6_12) rfl rfl k) ?_
      refine own_by (V := T13.setTop (mkF m 15 #[.val (.ref o0), .val (.int (0 : Int32)), .val (.int (3 : Int32)), .val (.int (-1 : Int32)), .val (.int (2 : Int32)), .val (.int x1)] [(.int (2 : Int32)), (.ref o0)])) (fun t k => XS.iload X13.here hx rfl (hb hby own_d_jdk_2529_6_13) rfl  k) ?_
      refine own_by (V := T13.setTop (mkF m 16 #[.val (.ref o0), .val (.int (0 : Int32)), .val (.int (3 : Int32)), .val (.int (-1 : Int32)), .val (.int (2 : Int32)), .val (.int x1)] [(.int (2 : Int32)), (.int (2 : Int32)), (.ref o0)])) (fun t k => XS.dup X13.here hx rfl (hb hby own_d_jdk_2529_6_15) rfl rfl k) ?_
      refine own_by (V := T13.setTop (mkF m 17 #[.val (.ref o0), .val (.int (0 : Int32)), .val (.int (3 : Int32)), .val (.int (2 : Int32)), .val (.int (2 : Int32)), .val (.int x1)] [(.int (2 : Int32)), (.ref o0)])) (fun t k => XS.istoreN X13.here hx rfl (hb hby own_d_jdk_2529_6_16) rfl (l' := #[.val (.ref o0), .val (.int (0 : Int32)), .val (.int (3 : Int32)), .val (.int (2 : Int32)), .val (.int (2 : Int32)), .val (.int x1)]) rfl k) ?_
      obtain ⟨cl15, Ar15, qa15, Sa15, Ma15, Ha15, Ua15⟩ := id V13
      have hi15 := inb_of Sa15 (j := (2 : Int32)) ⟨(by decide), (by decide)⟩
      refine own_by (V := T13.setTop (mkF m 18 #[.val (.ref o0), .val (.int (0 : Int32)), .val (.int (3 : Int32)), .val (.int (2 : Int32)), .val (.int (2 : Int32)), .val (.int x1)] [(.int x2)])) (X13.iaload hx (j := (2 : Int32)) (v := (.int x2)) (by rw [e13]; exact Ar15.1) (State.isArrayOf_alike hZ.alike Ar15.2.1) Ar15.2.2 hi15 (Has.at Ha15 hi15 rfl) (g := (mkF m 17 #[.val (.ref o0), .val (.int (0 : Int32)), .val (.int (3 : Int32)), .val (.int (2 : Int32)), .val (.int (2 : Int32)), .val (.int x1)] [(.int (2 : Int32)), (.ref o0)])) rfl rfl (hb hby own_d_jdk_2529_6_17)) ?_
      refine own_by (V := T13.setTop (mkF m 20 #[.val (.ref o0), .val (.int (0 : Int32)), .val (.int (3 : Int32)), .val (.int (2 : Int32)), .val (.int (2 : Int32)), .val (.int x2)] [])) (fun t k => XS.istore X13.here hx rfl (hb hby own_d_jdk_2529_6_18) rfl (l' := #[.val (.ref o0), .val (.int (0 : Int32)), .val (.int (3 : Int32)), .val (.int (2 : Int32)), .val (.int (2 : Int32)), .val (.int x2)]) rfl k) ?_
      refine own_by (V := T13.setTop (mkF m 22 #[.val (.ref o0), .val (.int (0 : Int32)), .val (.int (3 : Int32)), .val (.int (2 : Int32)), .val (.int (2 : Int32)), .val (.int x2)] [(.int x2)])) (fun t k => XS.iload X13.here hx rfl (hb hby own_d_jdk_2529_6_20) rfl  k) ?_
      refine own_by (V := T13.setTop (mkF m 23 #[.val (.ref o0), .val (.int (0 : Int32)), .val (.int (3 : Int32)), .val (.int (2 : Int32)), .val (.int (2 : Int32)), .val (.int x2)] [(.ref o0), (.int x2)])) (fun t k => XS.aloadN X13.here hx rfl (hb hby own_d_jdk_2529_6_22) rfl rfl k) ?_
      refine own_by (V := T13.setTop (mkF m 24 #[.val (.ref o0), .val (.int (0 : Int32)), .val (.int (3 : Int32)), .val (.int (2 : Int32)), .val (.int (2 : Int32)), .val (.int x2)] [(.int (2 : Int32)), (.ref o0), (.int x2)])) (fun t k => XS.iloadN X13.here hx rfl (hb hby own_d_jdk_2529_6_23) rfl  k) ?_
      refine own_by (V := T13.setTop (mkF m 25 #[.val (.ref o0), .val (.int (0 : Int32)), .val (.int (3 : Int32)), .val (.int (2 : Int32)), .val (.int (2 : Int32)), .val (.int x2)] [(.int (1 : Int32)), (.int (2 : Int32)), (.ref o0), (.int x2)])) (fun t k => XS.iconst X13.here hx rfl (hb hby own_d_jdk_2529_6_24) k) ?_
      refine own_by (V := T13.setTop (mkF m 26 #[.val (.ref o0), .val (.int (0 : Int32)), .val (.int (3 : Int32)), .val (.int (2 : Int32)), .val (.int (2 : Int32)), .val (.int x2)] [(.int (1 : Int32)), (.ref o0), (.int x2)])) (fun t k => XS.isub X13.here hx rfl (hb hby own_d_jdk_2529_6_25) rfl k) ?_
      obtain ⟨cl16, Ar16, qa16, Sa16, Ma16, Ha16, Ua16⟩ := id V13
      have hi16 := inb_of Sa16 (j := (1 : Int32)) ⟨(by decide), (by decide)⟩
      refine own_by (V := T13.setTop (mkF m 27 #[.val (.ref o0), .val (.int (0 : Int32)), .val (.int (3 : Int32)), .val (.int (2 : Int32)), .val (.int (2 : Int32)), .val (.int x2)] [(.int x0), (.int x2)])) (X13.iaload hx (j := (1 : Int32)) (v := (.int x0)) (by rw [e13]; exact Ar16.1) (State.isArrayOf_alike hZ.alike Ar16.2.1) Ar16.2.2 hi16 (Has.at Ha16 hi16 rfl) (g := (mkF m 26 #[.val (.ref o0), .val (.int (0 : Int32)), .val (.int (3 : Int32)), .val (.int (2 : Int32)), .val (.int (2 : Int32)), .val (.int x2)] [(.int (1 : Int32)), (.ref o0), (.int x2)])) rfl rfl (hb hby own_d_jdk_2529_6_26)) ?_
      by_cases hb27_17 : x2 < x0
      · refine own_by (V := T13.setTop (mkF m 30 #[.val (.ref o0), .val (.int (0 : Int32)), .val (.int (3 : Int32)), .val (.int (2 : Int32)), .val (.int (2 : Int32)), .val (.int x2)] [])) (fun t k => XS.icmpNo X13.here hx rfl (hb hby own_d_jdk_2529_6_27) rfl (tlt hb27_17).2.1 k) ?_
        refine own_by (V := T13.setTop (mkF m 33 #[.val (.ref o0), .val (.int (0 : Int32)), .val (.int (3 : Int32)), .val (.int (1 : Int32)), .val (.int (2 : Int32)), .val (.int x2)] [])) (fun t k => XS.iinc X13.here hx rfl (hb hby own_d_jdk_2529_6_30) rfl (l' := #[.val (.ref o0), .val (.int (0 : Int32)), .val (.int (3 : Int32)), .val (.int (1 : Int32)), .val (.int (2 : Int32)), .val (.int x2)]) rfl k) ?_
        refine own_by (V := T13.setTop (mkF m 34 #[.val (.ref o0), .val (.int (0 : Int32)), .val (.int (3 : Int32)), .val (.int (1 : Int32)), .val (.int (2 : Int32)), .val (.int x2)] [(.int (1 : Int32))])) (fun t k => XS.iloadN X13.here hx rfl (hb hby own_d_jdk_2529_6_33) rfl  k) ?_
        refine own_by (V := T13.setTop (mkF m 35 #[.val (.ref o0), .val (.int (0 : Int32)), .val (.int (3 : Int32)), .val (.int (1 : Int32)), .val (.int (2 : Int32)), .val (.int x2)] [(.int (0 : Int32)), (.int (1 : Int32))])) (fun t k => XS.iloadN X13.here hx rfl (hb hby own_d_jdk_2529_6_34) rfl  k) ?_
        have hb35_18 : ¬ ((1 : Int32) < (0 : Int32)) := by decide
        refine own_by (V := T13.setTop (mkF m 38 #[.val (.ref o0), .val (.int (0 : Int32)), .val (.int (3 : Int32)), .val (.int (1 : Int32)), .val (.int (2 : Int32)), .val (.int x2)] [])) (fun t k => XS.icmpNo X13.here hx rfl (hb hby own_d_jdk_2529_6_35) rfl (flt hb35_18).1 k) ?_
        refine own_by (V := T13.setTop (mkF m 40 #[.val (.ref o0), .val (.int (0 : Int32)), .val (.int (3 : Int32)), .val (.int (1 : Int32)), .val (.int (2 : Int32)), .val (.int x2)] [(.int x2)])) (fun t k => XS.iload X13.here hx rfl (hb hby own_d_jdk_2529_6_38) rfl  k) ?_
        refine own_by (V := T13.setTop (mkF m 41 #[.val (.ref o0), .val (.int (0 : Int32)), .val (.int (3 : Int32)), .val (.int (1 : Int32)), .val (.int (2 : Int32)), .val (.int x2)] [(.ref o0), (.int x2)])) (fun t k => XS.aloadN X13.here hx rfl (hb hby own_d_jdk_2529_6_40) rfl rfl k) ?_
        refine own_by (V := T13.setTop (mkF m 42 #[.val (.ref o0), .val (.int (0 : Int32)), .val (.int (3 : Int32)), .val (.int (1 : Int32)), .val (.int (2 : Int32)), .val (.int x2)] [(.int (1 : Int32)), (.ref o0), (.int x2)])) (fun t k => XS.iloadN X13.here hx rfl (hb hby own_d_jdk_2529_6_41) rfl  k) ?_
        obtain ⟨cl19, Ar19, qa19, Sa19, Ma19, Ha19, Ua19⟩ := id V13
        have hi19 := inb_of Sa19 (j := (1 : Int32)) ⟨(by decide), (by decide)⟩
        refine own_by (V := T13.setTop (mkF m 43 #[.val (.ref o0), .val (.int (0 : Int32)), .val (.int (3 : Int32)), .val (.int (1 : Int32)), .val (.int (2 : Int32)), .val (.int x2)] [(.int x0), (.int x2)])) (X13.iaload hx (j := (1 : Int32)) (v := (.int x0)) (by rw [e13]; exact Ar19.1) (State.isArrayOf_alike hZ.alike Ar19.2.1) Ar19.2.2 hi19 (Has.at Ha19 hi19 rfl) (g := (mkF m 42 #[.val (.ref o0), .val (.int (0 : Int32)), .val (.int (3 : Int32)), .val (.int (1 : Int32)), .val (.int (2 : Int32)), .val (.int x2)] [(.int (1 : Int32)), (.ref o0), (.int x2)])) rfl rfl (hb hby own_d_jdk_2529_6_42)) ?_
        by_cases hb43_20 : x2 < x0
        · refine own_by (V := T13.setTop (mkF m 46 #[.val (.ref o0), .val (.int (0 : Int32)), .val (.int (3 : Int32)), .val (.int (1 : Int32)), .val (.int (2 : Int32)), .val (.int x2)] [])) (fun t k => XS.icmpNo X13.here hx rfl (hb hby own_d_jdk_2529_6_43) rfl (tlt hb43_20).2.1 k) ?_
          refine own_by (V := T13.setTop (mkF m 47 #[.val (.ref o0), .val (.int (0 : Int32)), .val (.int (3 : Int32)), .val (.int (1 : Int32)), .val (.int (2 : Int32)), .val (.int x2)] [(.ref o0)])) (fun t k => XS.aloadN X13.here hx rfl (hb hby own_d_jdk_2529_6_46) rfl rfl k) ?_
          refine own_by (V := T13.setTop (mkF m 48 #[.val (.ref o0), .val (.int (0 : Int32)), .val (.int (3 : Int32)), .val (.int (1 : Int32)), .val (.int (2 : Int32)), .val (.int x2)] [(.int (1 : Int32)), (.ref o0)])) (fun t k => XS.iloadN X13.here hx rfl (hb hby own_d_jdk_2529_6_47) rfl  k) ?_
          refine own_by (V := T13.setTop (mkF m 49 #[.val (.ref o0), .val (.int (0 : Int32)), .val (.int (3 : Int32)), .val (.int (1 : Int32)), .val (.int (2 : Int32)), .val (.int x2)] [(.int (1 : Int32)), (.int (1 : Int32)), (.ref o0)])) (fun t k => XS.iconst X13.here hx rfl (hb hby own_d_jdk_2529_6_48) k) ?_
          refine own_by (V := T13.setTop (mkF m 50 #[.val (.ref o0), .val (.int (0 : Int32)), .val (.int (3 : Int32)), .val (.int (1 : Int32)), .val (.int (2 : Int32)), .val (.int x2)] [(.int (2 : Int32)), (.ref o0)])) (fun t k => XS.iadd X13.here hx rfl (hb hby own_d_jdk_2529_6_49) rfl k) ?_
          refine own_by (V := T13.setTop (mkF m 51 #[.val (.ref o0), .val (.int (0 : Int32)), .val (.int (3 : Int32)), .val (.int (1 : Int32)), .val (.int (2 : Int32)), .val (.int x2)] [(.ref o0), (.int (2 : Int32)), (.ref o0)])) (fun t k => XS.aloadN X13.here hx rfl (hb hby own_d_jdk_2529_6_50) rfl rfl k) ?_
          refine own_by (V := T13.setTop (mkF m 52 #[.val (.ref o0), .val (.int (0 : Int32)), .val (.int (3 : Int32)), .val (.int (1 : Int32)), .val (.int (2 : Int32)), .val (.int x2)] [(.int (1 : Int32)), (.ref o0), (.int (2 : Int32)), (.ref o0)])) (fun t k => XS.iloadN X13.here hx rfl (hb hby own_d_jdk_2529_6_51) rfl  k) ?_
          obtain ⟨cl21, Ar21, qa21, Sa21, Ma21, Ha21, Ua21⟩ := id V13
          have hi21 := inb_of Sa21 (j := (1 : Int32)) ⟨(by decide), (by decide)⟩
          refine own_by (V := T13.setTop (mkF m 53 #[.val (.ref o0), .val (.int (0 : Int32)), .val (.int (3 : Int32)), .val (.int (1 : Int32)), .val (.int (2 : Int32)), .val (.int x2)] [(.int x0), (.int (2 : Int32)), (.ref o0)])) (X13.iaload hx (j := (1 : Int32)) (v := (.int x0)) (by rw [e13]; exact Ar21.1) (State.isArrayOf_alike hZ.alike Ar21.2.1) Ar21.2.2 hi21 (Has.at Ha21 hi21 rfl) (g := (mkF m 52 #[.val (.ref o0), .val (.int (0 : Int32)), .val (.int (3 : Int32)), .val (.int (1 : Int32)), .val (.int (2 : Int32)), .val (.int x2)] [(.int (1 : Int32)), (.ref o0), (.int (2 : Int32)), (.ref o0)])) rfl rfl (hb hby own_d_jdk_2529_6_52)) ?_
          obtain ⟨cl22, Ar22, qa22, Sa22, Ma22, Ha22, Ua22⟩ := id V13
          obtain ⟨T23, h23, X23, e23, W23, st23⟩ := stI X13 hx hZ e13 Ar22 (j := (2 : Int32)) (inb_of Sa22 ⟨(by decide), (by decide)⟩) (g := (mkF m 53 #[.val (.ref o0), .val (.int (0 : Int32)), .val (.int (3 : Int32)), .val (.int (1 : Int32)), .val (.int (2 : Int32)), .val (.int x2)] [(.int x0), (.int (2 : Int32)), (.ref o0)])) rfl rfl (hb hby own_d_jdk_2529_6_53)
          have N23 := Fr.snoc X23 N13 g0
          have K23 := K13.wr W23 (Or.inl (List.mem_of_getElem? (i := 0) rfl))
          have Zs23 : n0 ≤ h23.size := by rw [W23.size]; exact Zs13
          have V23 : Arv Z h23 o0 kb .int (3 : Int32) [(.int x1), (.int x0), (.int x0)] (.int (0 : Int32)) := Arv.set Ar22 qa22 Sa22 Ma22 Ha22 Ua22 rfl W23 2 (by decide) (by simp)
          refine own_by (V := T23.setTop (mkF m 54 #[.val (.ref o0), .val (.int (0 : Int32)), .val (.int (3 : Int32)), .val (.int (1 : Int32)), .val (.int (2 : Int32)), .val (.int x2)] [])) st23 ?_
          refine own_by (V := T23.setTop (mkF m 30 #[.val (.ref o0), .val (.int (0 : Int32)), .val (.int (3 : Int32)), .val (.int (1 : Int32)), .val (.int (2 : Int32)), .val (.int x2)] [])) (fun t k => XS.goto X23.here hx rfl (pc0 := 54) (pc' := 30) rfl (hb hby own_d_jdk_2529_6_54) (by decide) (by decide) k) ?_
          refine own_by (V := T23.setTop (mkF m 33 #[.val (.ref o0), .val (.int (0 : Int32)), .val (.int (3 : Int32)), .val (.int (0 : Int32)), .val (.int (2 : Int32)), .val (.int x2)] [])) (fun t k => XS.iinc X23.here hx rfl (hb hby own_d_jdk_2529_6_30) rfl (l' := #[.val (.ref o0), .val (.int (0 : Int32)), .val (.int (3 : Int32)), .val (.int (0 : Int32)), .val (.int (2 : Int32)), .val (.int x2)]) rfl k) ?_
          refine own_by (V := T23.setTop (mkF m 34 #[.val (.ref o0), .val (.int (0 : Int32)), .val (.int (3 : Int32)), .val (.int (0 : Int32)), .val (.int (2 : Int32)), .val (.int x2)] [(.int (0 : Int32))])) (fun t k => XS.iloadN X23.here hx rfl (hb hby own_d_jdk_2529_6_33) rfl  k) ?_
          refine own_by (V := T23.setTop (mkF m 35 #[.val (.ref o0), .val (.int (0 : Int32)), .val (.int (3 : Int32)), .val (.int (0 : Int32)), .val (.int (2 : Int32)), .val (.int x2)] [(.int (0 : Int32)), (.int (0 : Int32))])) (fun t k => XS.iloadN X23.here hx rfl (hb hby own_d_jdk_2529_6_34) rfl  k) ?_
          have hb35_24 : ¬ ((0 : Int32) < (0 : Int32)) := by decide
          refine own_by (V := T23.setTop (mkF m 38 #[.val (.ref o0), .val (.int (0 : Int32)), .val (.int (3 : Int32)), .val (.int (0 : Int32)), .val (.int (2 : Int32)), .val (.int x2)] [])) (fun t k => XS.icmpNo X23.here hx rfl (hb hby own_d_jdk_2529_6_35) rfl (flt hb35_24).1 k) ?_
          refine own_by (V := T23.setTop (mkF m 40 #[.val (.ref o0), .val (.int (0 : Int32)), .val (.int (3 : Int32)), .val (.int (0 : Int32)), .val (.int (2 : Int32)), .val (.int x2)] [(.int x2)])) (fun t k => XS.iload X23.here hx rfl (hb hby own_d_jdk_2529_6_38) rfl  k) ?_
          refine own_by (V := T23.setTop (mkF m 41 #[.val (.ref o0), .val (.int (0 : Int32)), .val (.int (3 : Int32)), .val (.int (0 : Int32)), .val (.int (2 : Int32)), .val (.int x2)] [(.ref o0), (.int x2)])) (fun t k => XS.aloadN X23.here hx rfl (hb hby own_d_jdk_2529_6_40) rfl rfl k) ?_
          refine own_by (V := T23.setTop (mkF m 42 #[.val (.ref o0), .val (.int (0 : Int32)), .val (.int (3 : Int32)), .val (.int (0 : Int32)), .val (.int (2 : Int32)), .val (.int x2)] [(.int (0 : Int32)), (.ref o0), (.int x2)])) (fun t k => XS.iloadN X23.here hx rfl (hb hby own_d_jdk_2529_6_41) rfl  k) ?_
          obtain ⟨cl25, Ar25, qa25, Sa25, Ma25, Ha25, Ua25⟩ := id V23
          have hi25 := inb_of Sa25 (j := (0 : Int32)) ⟨(by decide), (by decide)⟩
          refine own_by (V := T23.setTop (mkF m 43 #[.val (.ref o0), .val (.int (0 : Int32)), .val (.int (3 : Int32)), .val (.int (0 : Int32)), .val (.int (2 : Int32)), .val (.int x2)] [(.int x1), (.int x2)])) (X23.iaload hx (j := (0 : Int32)) (v := (.int x1)) (by rw [e23]; exact Ar25.1) (State.isArrayOf_alike hZ.alike Ar25.2.1) Ar25.2.2 hi25 (Has.at Ha25 hi25 rfl) (g := (mkF m 42 #[.val (.ref o0), .val (.int (0 : Int32)), .val (.int (3 : Int32)), .val (.int (0 : Int32)), .val (.int (2 : Int32)), .val (.int x2)] [(.int (0 : Int32)), (.ref o0), (.int x2)])) rfl rfl (hb hby own_d_jdk_2529_6_42)) ?_
          by_cases hb43_26 : x2 < x1
          · refine own_by (V := T23.setTop (mkF m 46 #[.val (.ref o0), .val (.int (0 : Int32)), .val (.int (3 : Int32)), .val (.int (0 : Int32)), .val (.int (2 : Int32)), .val (.int x2)] [])) (fun t k => XS.icmpNo X23.here hx rfl (hb hby own_d_jdk_2529_6_43) rfl (tlt hb43_26).2.1 k) ?_
            refine own_by (V := T23.setTop (mkF m 47 #[.val (.ref o0), .val (.int (0 : Int32)), .val (.int (3 : Int32)), .val (.int (0 : Int32)), .val (.int (2 : Int32)), .val (.int x2)] [(.ref o0)])) (fun t k => XS.aloadN X23.here hx rfl (hb hby own_d_jdk_2529_6_46) rfl rfl k) ?_
            refine own_by (V := T23.setTop (mkF m 48 #[.val (.ref o0), .val (.int (0 : Int32)), .val (.int (3 : Int32)), .val (.int (0 : Int32)), .val (.int (2 : Int32)), .val (.int x2)] [(.int (0 : Int32)), (.ref o0)])) (fun t k => XS.iloadN X23.here hx rfl (hb hby own_d_jdk_2529_6_47) rfl  k) ?_
            refine own_by (V := T23.setTop (mkF m 49 #[.val (.ref o0), .val (.int (0 : Int32)), .val (.int (3 : Int32)), .val (.int (0 : Int32)), .val (.int (2 : Int32)), .val (.int x2)] [(.int (1 : Int32)), (.int (0 : Int32)), (.ref o0)])) (fun t k => XS.iconst X23.here hx rfl (hb hby own_d_jdk_2529_6_48) k) ?_
            refine own_by (V := T23.setTop (mkF m 50 #[.val (.ref o0), .val (.int (0 : Int32)), .val (.int (3 : Int32)), .val (.int (0 : Int32)), .val (.int (2 : Int32)), .val (.int x2)] [(.int (1 : Int32)), (.ref o0)])) (fun t k => XS.iadd X23.here hx rfl (hb hby own_d_jdk_2529_6_49) rfl k) ?_
            refine own_by (V := T23.setTop (mkF m 51 #[.val (.ref o0), .val (.int (0 : Int32)), .val (.int (3 : Int32)), .val (.int (0 : Int32)), .val (.int (2 : Int32)), .val (.int x2)] [(.ref o0), (.int (1 : Int32)), (.ref o0)])) (fun t k => XS.aloadN X23.here hx rfl (hb hby own_d_jdk_2529_6_50) rfl rfl k) ?_
            refine own_by (V := T23.setTop (mkF m 52 #[.val (.ref o0), .val (.int (0 : Int32)), .val (.int (3 : Int32)), .val (.int (0 : Int32)), .val (.int (2 : Int32)), .val (.int x2)] [(.int (0 : Int32)), (.ref o0), (.int (1 : Int32)), (.ref o0)])) (fun t k => XS.iloadN X23.here hx rfl (hb hby own_d_jdk_2529_6_51) rfl  k) ?_
            obtain ⟨cl27, Ar27, qa27, Sa27, Ma27, Ha27, Ua27⟩ := id V23
            have hi27 := inb_of Sa27 (j := (0 : Int32)) ⟨(by decide), (by decide)⟩
            refine own_by (V := T23.setTop (mkF m 53 #[.val (.ref o0), .val (.int (0 : Int32)), .val (.int (3 : Int32)), .val (.int (0 : Int32)), .val (.int (2 : Int32)), .val (.int x2)] [(.int x1), (.int (1 : Int32)), (.ref o0)])) (X23.iaload hx (j := (0 : Int32)) (v := (.int x1)) (by rw [e23]; exact Ar27.1) (State.isArrayOf_alike hZ.alike Ar27.2.1) Ar27.2.2 hi27 (Has.at Ha27 hi27 rfl) (g := (mkF m 52 #[.val (.ref o0), .val (.int (0 : Int32)), .val (.int (3 : Int32)), .val (.int (0 : Int32)), .val (.int (2 : Int32)), .val (.int x2)] [(.int (0 : Int32)), (.ref o0), (.int (1 : Int32)), (.ref o0)])) rfl rfl (hb hby own_d_jdk_2529_6_52)) ?_
            obtain ⟨cl28, Ar28, qa28, Sa28, Ma28, Ha28, Ua28⟩ := id V23
            obtain ⟨T29, h29, X29, e29, W29, st29⟩ := stI X23 hx hZ e23 Ar28 (j := (1 : Int32)) (inb_of Sa28 ⟨(by decide), (by decide)⟩) (g := (mkF m 53 #[.val (.ref o0), .val (.int (0 : Int32)), .val (.int (3 : Int32)), .val (.int (0 : Int32)), .val (.int (2 : Int32)), .val (.int x2)] [(.int x1), (.int (1 : Int32)), (.ref o0)])) rfl rfl (hb hby own_d_jdk_2529_6_53)
            have N29 := Fr.snoc X29 N23 g0
            have K29 := K23.wr W29 (Or.inl (List.mem_of_getElem? (i := 0) rfl))
            have Zs29 : n0 ≤ h29.size := by rw [W29.size]; exact Zs23
            have V29 : Arv Z h29 o0 kb .int (3 : Int32) [(.int x1), (.int x1), (.int x0)] (.int (0 : Int32)) := Arv.set Ar28 qa28 Sa28 Ma28 Ha28 Ua28 rfl W29 1 (by decide) (by simp)
            refine own_by (V := T29.setTop (mkF m 54 #[.val (.ref o0), .val (.int (0 : Int32)), .val (.int (3 : Int32)), .val (.int (0 : Int32)), .val (.int (2 : Int32)), .val (.int x2)] [])) st29 ?_
            refine own_by (V := T29.setTop (mkF m 30 #[.val (.ref o0), .val (.int (0 : Int32)), .val (.int (3 : Int32)), .val (.int (0 : Int32)), .val (.int (2 : Int32)), .val (.int x2)] [])) (fun t k => XS.goto X29.here hx rfl (pc0 := 54) (pc' := 30) rfl (hb hby own_d_jdk_2529_6_54) (by decide) (by decide) k) ?_
            refine own_by (V := T29.setTop (mkF m 33 #[.val (.ref o0), .val (.int (0 : Int32)), .val (.int (3 : Int32)), .val (.int (-1 : Int32)), .val (.int (2 : Int32)), .val (.int x2)] [])) (fun t k => XS.iinc X29.here hx rfl (hb hby own_d_jdk_2529_6_30) rfl (l' := #[.val (.ref o0), .val (.int (0 : Int32)), .val (.int (3 : Int32)), .val (.int (-1 : Int32)), .val (.int (2 : Int32)), .val (.int x2)]) rfl k) ?_
            refine own_by (V := T29.setTop (mkF m 34 #[.val (.ref o0), .val (.int (0 : Int32)), .val (.int (3 : Int32)), .val (.int (-1 : Int32)), .val (.int (2 : Int32)), .val (.int x2)] [(.int (-1 : Int32))])) (fun t k => XS.iloadN X29.here hx rfl (hb hby own_d_jdk_2529_6_33) rfl  k) ?_
            refine own_by (V := T29.setTop (mkF m 35 #[.val (.ref o0), .val (.int (0 : Int32)), .val (.int (3 : Int32)), .val (.int (-1 : Int32)), .val (.int (2 : Int32)), .val (.int x2)] [(.int (0 : Int32)), (.int (-1 : Int32))])) (fun t k => XS.iloadN X29.here hx rfl (hb hby own_d_jdk_2529_6_34) rfl  k) ?_
            have hb35_30 : ((-1 : Int32) < (0 : Int32)) := by decide
            refine own_by (V := T29.setTop (mkF m 57 #[.val (.ref o0), .val (.int (0 : Int32)), .val (.int (3 : Int32)), .val (.int (-1 : Int32)), .val (.int (2 : Int32)), .val (.int x2)] [])) (fun t k => XS.icmpYes X29.here hx rfl (pc0 := 35) (pc' := 57) rfl (hb hby own_d_jdk_2529_6_35) rfl (tlt hb35_30).1 (by decide) (by decide) k) ?_
            refine own_by (V := T29.setTop (mkF m 58 #[.val (.ref o0), .val (.int (0 : Int32)), .val (.int (3 : Int32)), .val (.int (-1 : Int32)), .val (.int (2 : Int32)), .val (.int x2)] [(.ref o0)])) (fun t k => XS.aloadN X29.here hx rfl (hb hby own_d_jdk_2529_6_57) rfl rfl k) ?_
            refine own_by (V := T29.setTop (mkF m 59 #[.val (.ref o0), .val (.int (0 : Int32)), .val (.int (3 : Int32)), .val (.int (-1 : Int32)), .val (.int (2 : Int32)), .val (.int x2)] [(.int (-1 : Int32)), (.ref o0)])) (fun t k => XS.iloadN X29.here hx rfl (hb hby own_d_jdk_2529_6_58) rfl  k) ?_
            refine own_by (V := T29.setTop (mkF m 60 #[.val (.ref o0), .val (.int (0 : Int32)), .val (.int (3 : Int32)), .val (.int (-1 : Int32)), .val (.int (2 : Int32)), .val (.int x2)] [(.int (1 : Int32)), (.int (-1 : Int32)), (.ref o0)])) (fun t k => XS.iconst X29.here hx rfl (hb hby own_d_jdk_2529_6_59) k) ?_
            refine own_by (V := T29.setTop (mkF m 61 #[.val (.ref o0), .val (.int (0 : Int32)), .val (.int (3 : Int32)), .val (.int (-1 : Int32)), .val (.int (2 : Int32)), .val (.int x2)] [(.int (0 : Int32)), (.ref o0)])) (fun t k => XS.iadd X29.here hx rfl (hb hby own_d_jdk_2529_6_60) rfl k) ?_
            refine own_by (V := T29.setTop (mkF m 63 #[.val (.ref o0), .val (.int (0 : Int32)), .val (.int (3 : Int32)), .val (.int (-1 : Int32)), .val (.int (2 : Int32)), .val (.int x2)] [(.int x2), (.int (0 : Int32)), (.ref o0)])) (fun t k => XS.iload X29.here hx rfl (hb hby own_d_jdk_2529_6_61) rfl  k) ?_
            obtain ⟨cl31, Ar31, qa31, Sa31, Ma31, Ha31, Ua31⟩ := id V29
            obtain ⟨T32, h32, X32, e32, W32, st32⟩ := stI X29 hx hZ e29 Ar31 (j := (0 : Int32)) (inb_of Sa31 ⟨(by decide), (by decide)⟩) (g := (mkF m 63 #[.val (.ref o0), .val (.int (0 : Int32)), .val (.int (3 : Int32)), .val (.int (-1 : Int32)), .val (.int (2 : Int32)), .val (.int x2)] [(.int x2), (.int (0 : Int32)), (.ref o0)])) rfl rfl (hb hby own_d_jdk_2529_6_63)
            have N32 := Fr.snoc X32 N29 g0
            have K32 := K29.wr W32 (Or.inl (List.mem_of_getElem? (i := 0) rfl))
            have Zs32 : n0 ≤ h32.size := by rw [W32.size]; exact Zs29
            have V32 : Arv Z h32 o0 kb .int (3 : Int32) [(.int x2), (.int x1), (.int x0)] (.int (0 : Int32)) := Arv.set Ar31 qa31 Sa31 Ma31 Ha31 Ua31 rfl W32 0 (by decide) (by simp)
            refine own_by (V := T32.setTop (mkF m 64 #[.val (.ref o0), .val (.int (0 : Int32)), .val (.int (3 : Int32)), .val (.int (-1 : Int32)), .val (.int (2 : Int32)), .val (.int x2)] [])) st32 ?_
            refine own_by (V := T32.setTop (mkF m 3 #[.val (.ref o0), .val (.int (0 : Int32)), .val (.int (3 : Int32)), .val (.int (-1 : Int32)), .val (.int (2 : Int32)), .val (.int x2)] [])) (fun t k => XS.goto X32.here hx rfl (pc0 := 64) (pc' := 3) rfl (hb hby own_d_jdk_2529_6_64) (by decide) (by decide) k) ?_
            refine own_by (V := T32.setTop (mkF m 6 #[.val (.ref o0), .val (.int (0 : Int32)), .val (.int (3 : Int32)), .val (.int (-1 : Int32)), .val (.int (3 : Int32)), .val (.int x2)] [])) (fun t k => XS.iinc X32.here hx rfl (hb hby own_d_jdk_2529_6_3) rfl (l' := #[.val (.ref o0), .val (.int (0 : Int32)), .val (.int (3 : Int32)), .val (.int (-1 : Int32)), .val (.int (3 : Int32)), .val (.int x2)]) rfl k) ?_
            refine own_by (V := T32.setTop (mkF m 8 #[.val (.ref o0), .val (.int (0 : Int32)), .val (.int (3 : Int32)), .val (.int (-1 : Int32)), .val (.int (3 : Int32)), .val (.int x2)] [(.int (3 : Int32))])) (fun t k => XS.iload X32.here hx rfl (hb hby own_d_jdk_2529_6_6) rfl  k) ?_
            refine own_by (V := T32.setTop (mkF m 9 #[.val (.ref o0), .val (.int (0 : Int32)), .val (.int (3 : Int32)), .val (.int (-1 : Int32)), .val (.int (3 : Int32)), .val (.int x2)] [(.int (3 : Int32)), (.int (3 : Int32))])) (fun t k => XS.iloadN X32.here hx rfl (hb hby own_d_jdk_2529_6_8) rfl  k) ?_
            have hb9_33 : ¬ ((3 : Int32) < (3 : Int32)) := by decide
            refine own_by (V := T32.setTop (mkF m 67 #[.val (.ref o0), .val (.int (0 : Int32)), .val (.int (3 : Int32)), .val (.int (-1 : Int32)), .val (.int (3 : Int32)), .val (.int x2)] [])) (fun t k => XS.icmpYes X32.here hx rfl (pc0 := 9) (pc' := 67) rfl (hb hby own_d_jdk_2529_6_9) rfl (flt hb9_33).2.1 (by decide) (by decide) k) ?_
            refine own_ret0 X32 hx hlk e32 Bd.returns (hb hby own_d_jdk_2529_6_67) ?_ (by decide) (by decide)
            exact ⟨rfl, N32, K32, (by have q := own_s3_210 x0 x1 x2 (by (try rw [Int32.lt_iff_toInt_lt] at hb9_1); (try rw [Int32.lt_iff_toInt_lt] at hb27_4); (try rw [Int32.lt_iff_toInt_lt] at hb35_5); (try rw [Int32.lt_iff_toInt_lt] at hb43_7); (try rw [Int32.lt_iff_toInt_lt] at hb35_11); (try rw [Int32.lt_iff_toInt_lt] at hb9_14); (try rw [Int32.lt_iff_toInt_lt] at hb27_17); (try rw [Int32.lt_iff_toInt_lt] at hb35_18); (try rw [Int32.lt_iff_toInt_lt] at hb43_20); (try rw [Int32.lt_iff_toInt_lt] at hb35_24); (try rw [Int32.lt_iff_toInt_lt] at hb43_26); (try rw [Int32.lt_iff_toInt_lt] at hb35_30); (try rw [Int32.lt_iff_toInt_lt] at hb9_33); rw [Int32.lt_iff_toInt_lt]; omega) (by (try rw [Int32.lt_iff_toInt_lt] at hb9_1); (try rw [Int32.lt_iff_toInt_lt] at hb27_4); (try rw [Int32.lt_iff_toInt_lt] at hb35_5); (try rw [Int32.lt_iff_toInt_lt] at hb43_7); (try rw [Int32.lt_iff_toInt_lt] at hb35_11); (try rw [Int32.lt_iff_toInt_lt] at hb9_14); (try rw [Int32.lt_iff_toInt_lt] at hb27_17); (try rw [Int32.lt_iff_toInt_lt] at hb35_18); (try rw [Int32.lt_iff_toInt_lt] at hb43_20); (try rw [Int32.lt_iff_toInt_lt] at hb35_24); (try rw [Int32.lt_iff_toInt_lt] at hb43_26); (try rw [Int32.lt_iff_toInt_lt] at hb35_30); (try rw [Int32.lt_iff_toInt_lt] at hb9_33); rw [Int32.lt_iff_toInt_lt]; omega); rw [q.1, q.2.1, q.2.2]; exact V32)⟩
          · refine own_by (V := T23.setTop (mkF m 57 #[.val (.ref o0), .val (.int (0 : Int32)), .val (.int (3 : Int32)), .val (.int (0 : Int32)), .val (.int (2 : Int32)), .val (.int x2)] [])) (fun t k => XS.icmpYes X23.here hx rfl (pc0 := 43) (pc' := 57) rfl (hb hby own_d_jdk_2529_6_43) rfl (flt hb43_26).2.1 (by decide) (by decide) k) ?_
            refine own_by (V := T23.setTop (mkF m 58 #[.val (.ref o0), .val (.int (0 : Int32)), .val (.int (3 : Int32)), .val (.int (0 : Int32)), .val (.int (2 : Int32)), .val (.int x2)] [(.ref o0)])) (fun t k => XS.aloadN X23.here hx rfl (hb hby own_d_jdk_2529_6_57) rfl rfl k) ?_
            refine own_by (V := T23.setTop (mkF m 59 #[.val (.ref o0), .val (.int (0 : Int32)), .val (.int (3 : Int32)), .val (.int (0 : Int32)), .val (.int (2 : Int32)), .val (.int x2)] [(.int (0 : Int32)), (.ref o0)])) (fun t k => XS.iloadN X23.here hx rfl (hb hby own_d_jdk_2529_6_58) rfl  k) ?_
            refine own_by (V := T23.setTop (mkF m 60 #[.val (.ref o0), .val (.int (0 : Int32)), .val (.int (3 : Int32)), .val (.int (0 : Int32)), .val (.int (2 : Int32)), .val (.int x2)] [(.int (1 : Int32)), (.int (0 : Int32)), (.ref o0)])) (fun t k => XS.iconst X23.here hx rfl (hb hby own_d_jdk_2529_6_59) k) ?_
            refine own_by (V := T23.setTop (mkF m 61 #[.val (.ref o0), .val (.int (0 : Int32)), .val (.int (3 : Int32)), .val (.int (0 : Int32)), .val (.int (2 : Int32)), .val (.int x2)] [(.int (1 : Int32)), (.ref o0)])) (fun t k => XS.iadd X23.here hx rfl (hb hby own_d_jdk_2529_6_60) rfl k) ?_
            refine own_by (V := T23.setTop (mkF m 63 #[.val (.ref o0), .val (.int (0 : Int32)), .val (.int (3 : Int32)), .val (.int (0 : Int32)), .val (.int (2 : Int32)), .val (.int x2)] [(.int x2), (.int (1 : Int32)), (.ref o0)])) (fun t k => XS.iload X23.here hx rfl (hb hby own_d_jdk_2529_6_61) rfl  k) ?_
            obtain ⟨cl34, Ar34, qa34, Sa34, Ma34, Ha34, Ua34⟩ := id V23
            obtain ⟨T35, h35, X35, e35, W35, st35⟩ := stI X23 hx hZ e23 Ar34 (j := (1 : Int32)) (inb_of Sa34 ⟨(by decide), (by decide)⟩) (g := (mkF m 63 #[.val (.ref o0), .val (.int (0 : Int32)), .val (.int (3 : Int32)), .val (.int (0 : Int32)), .val (.int (2 : Int32)), .val (.int x2)] [(.int x2), (.int (1 : Int32)), (.ref o0)])) rfl rfl (hb hby own_d_jdk_2529_6_63)
            have N35 := Fr.snoc X35 N23 g0
            have K35 := K23.wr W35 (Or.inl (List.mem_of_getElem? (i := 0) rfl))
            have Zs35 : n0 ≤ h35.size := by rw [W35.size]; exact Zs23
            have V35 : Arv Z h35 o0 kb .int (3 : Int32) [(.int x1), (.int x2), (.int x0)] (.int (0 : Int32)) := Arv.set Ar34 qa34 Sa34 Ma34 Ha34 Ua34 rfl W35 1 (by decide) (by simp)
            refine own_by (V := T35.setTop (mkF m 64 #[.val (.ref o0), .val (.int (0 : Int32)), .val (.int (3 : Int32)), .val (.int (0 : Int32)), .val (.int (2 : Int32)), .val (.int x2)] [])) st35 ?_
            refine own_by (V := T35.setTop (mkF m 3 #[.val (.ref o0), .val (.int (0 : Int32)), .val (.int (3 : Int32)), .val (.int (0 : Int32)), .val (.int (2 : Int32)), .val (.int x2)] [])) (fun t k => XS.goto X35.here hx rfl (pc0 := 64) (pc' := 3) rfl (hb hby own_d_jdk_2529_6_64) (by decide) (by decide) k) ?_
            refine own_by (V := T35.setTop (mkF m 6 #[.val (.ref o0), .val (.int (0 : Int32)), .val (.int (3 : Int32)), .val (.int (0 : Int32)), .val (.int (3 : Int32)), .val (.int x2)] [])) (fun t k => XS.iinc X35.here hx rfl (hb hby own_d_jdk_2529_6_3) rfl (l' := #[.val (.ref o0), .val (.int (0 : Int32)), .val (.int (3 : Int32)), .val (.int (0 : Int32)), .val (.int (3 : Int32)), .val (.int x2)]) rfl k) ?_
            refine own_by (V := T35.setTop (mkF m 8 #[.val (.ref o0), .val (.int (0 : Int32)), .val (.int (3 : Int32)), .val (.int (0 : Int32)), .val (.int (3 : Int32)), .val (.int x2)] [(.int (3 : Int32))])) (fun t k => XS.iload X35.here hx rfl (hb hby own_d_jdk_2529_6_6) rfl  k) ?_
            refine own_by (V := T35.setTop (mkF m 9 #[.val (.ref o0), .val (.int (0 : Int32)), .val (.int (3 : Int32)), .val (.int (0 : Int32)), .val (.int (3 : Int32)), .val (.int x2)] [(.int (3 : Int32)), (.int (3 : Int32))])) (fun t k => XS.iloadN X35.here hx rfl (hb hby own_d_jdk_2529_6_8) rfl  k) ?_
            have hb9_36 : ¬ ((3 : Int32) < (3 : Int32)) := by decide
            refine own_by (V := T35.setTop (mkF m 67 #[.val (.ref o0), .val (.int (0 : Int32)), .val (.int (3 : Int32)), .val (.int (0 : Int32)), .val (.int (3 : Int32)), .val (.int x2)] [])) (fun t k => XS.icmpYes X35.here hx rfl (pc0 := 9) (pc' := 67) rfl (hb hby own_d_jdk_2529_6_9) rfl (flt hb9_36).2.1 (by decide) (by decide) k) ?_
            refine own_ret0 X35 hx hlk e35 Bd.returns (hb hby own_d_jdk_2529_6_67) ?_ (by decide) (by decide)
            exact ⟨rfl, N35, K35, (by have q := own_s3_120 x0 x1 x2 (by (try rw [Int32.lt_iff_toInt_lt] at hb9_1); (try rw [Int32.lt_iff_toInt_lt] at hb27_4); (try rw [Int32.lt_iff_toInt_lt] at hb35_5); (try rw [Int32.lt_iff_toInt_lt] at hb43_7); (try rw [Int32.lt_iff_toInt_lt] at hb35_11); (try rw [Int32.lt_iff_toInt_lt] at hb9_14); (try rw [Int32.lt_iff_toInt_lt] at hb27_17); (try rw [Int32.lt_iff_toInt_lt] at hb35_18); (try rw [Int32.lt_iff_toInt_lt] at hb43_20); (try rw [Int32.lt_iff_toInt_lt] at hb35_24); (try rw [Int32.lt_iff_toInt_lt] at hb43_26); (try rw [Int32.lt_iff_toInt_lt] at hb9_36); rw [Int32.lt_iff_toInt_lt]; omega) (by (try rw [Int32.lt_iff_toInt_lt] at hb9_1); (try rw [Int32.lt_iff_toInt_lt] at hb27_4); (try rw [Int32.lt_iff_toInt_lt] at hb35_5); (try rw [Int32.lt_iff_toInt_lt] at hb43_7); (try rw [Int32.lt_iff_toInt_lt] at hb35_11); (try rw [Int32.lt_iff_toInt_lt] at hb9_14); (try rw [Int32.lt_iff_toInt_lt] at hb27_17); (try rw [Int32.lt_iff_toInt_lt] at hb35_18); (try rw [Int32.lt_iff_toInt_lt] at hb43_20); (try rw [Int32.lt_iff_toInt_lt] at hb35_24); (try rw [Int32.lt_iff_toInt_lt] at hb43_26); (try rw [Int32.lt_iff_toInt_lt] at hb9_36); rw [Int32.lt_iff_toInt_lt]; omega); rw [q.1, q.2.1, q.2.2]; exact V35)⟩
        · refine own_by (V := T13.setTop (mkF m 57 #[.val (.ref o0), .val (.int (0 : Int32)), .val (.int (3 : Int32)), .val (.int (1 : Int32)), .val (.int (2 : Int32)), .val (.int x2)] [])) (fun t k => XS.icmpYes X13.here hx rfl (pc0 := 43) (pc' := 57) rfl (hb hby own_d_jdk_2529_6_43) rfl (flt hb43_20).2.1 (by decide) (by decide) k) ?_
          refine own_by (V := T13.setTop (mkF m 58 #[.val (.ref o0), .val (.int (0 : Int32)), .val (.int (3 : Int32)), .val (.int (1 : Int32)), .val (.int (2 : Int32)), .val (.int x2)] [(.ref o0)])) (fun t k => XS.aloadN X13.here hx rfl (hb hby own_d_jdk_2529_6_57) rfl rfl k) ?_
          refine own_by (V := T13.setTop (mkF m 59 #[.val (.ref o0), .val (.int (0 : Int32)), .val (.int (3 : Int32)), .val (.int (1 : Int32)), .val (.int (2 : Int32)), .val (.int x2)] [(.int (1 : Int32)), (.ref o0)])) (fun t k => XS.iloadN X13.here hx rfl (hb hby own_d_jdk_2529_6_58) rfl  k) ?_
          refine own_by (V := T13.setTop (mkF m 60 #[.val (.ref o0), .val (.int (0 : Int32)), .val (.int (3 : Int32)), .val (.int (1 : Int32)), .val (.int (2 : Int32)), .val (.int x2)] [(.int (1 : Int32)), (.int (1 : Int32)), (.ref o0)])) (fun t k => XS.iconst X13.here hx rfl (hb hby own_d_jdk_2529_6_59) k) ?_
          refine own_by (V := T13.setTop (mkF m 61 #[.val (.ref o0), .val (.int (0 : Int32)), .val (.int (3 : Int32)), .val (.int (1 : Int32)), .val (.int (2 : Int32)), .val (.int x2)] [(.int (2 : Int32)), (.ref o0)])) (fun t k => XS.iadd X13.here hx rfl (hb hby own_d_jdk_2529_6_60) rfl k) ?_
          refine own_by (V := T13.setTop (mkF m 63 #[.val (.ref o0), .val (.int (0 : Int32)), .val (.int (3 : Int32)), .val (.int (1 : Int32)), .val (.int (2 : Int32)), .val (.int x2)] [(.int x2), (.int (2 : Int32)), (.ref o0)])) (fun t k => XS.iload X13.here hx rfl (hb hby own_d_jdk_2529_6_61) rfl  k) ?_
          obtain ⟨cl37, Ar37, qa37, Sa37, Ma37, Ha37, Ua37⟩ := id V13
          obtain ⟨T38, h38, X38, e38, W38, st38⟩ := stI X13 hx hZ e13 Ar37 (j := (2 : Int32)) (inb_of Sa37 ⟨(by decide), (by decide)⟩) (g := (mkF m 63 #[.val (.ref o0), .val (.int (0 : Int32)), .val (.int (3 : Int32)), .val (.int (1 : Int32)), .val (.int (2 : Int32)), .val (.int x2)] [(.int x2), (.int (2 : Int32)), (.ref o0)])) rfl rfl (hb hby own_d_jdk_2529_6_63)
          have N38 := Fr.snoc X38 N13 g0
          have K38 := K13.wr W38 (Or.inl (List.mem_of_getElem? (i := 0) rfl))
          have Zs38 : n0 ≤ h38.size := by rw [W38.size]; exact Zs13
          have V38 : Arv Z h38 o0 kb .int (3 : Int32) [(.int x1), (.int x0), (.int x2)] (.int (0 : Int32)) := Arv.set Ar37 qa37 Sa37 Ma37 Ha37 Ua37 rfl W38 2 (by decide) (by simp)
          refine own_by (V := T38.setTop (mkF m 64 #[.val (.ref o0), .val (.int (0 : Int32)), .val (.int (3 : Int32)), .val (.int (1 : Int32)), .val (.int (2 : Int32)), .val (.int x2)] [])) st38 ?_
          refine own_by (V := T38.setTop (mkF m 3 #[.val (.ref o0), .val (.int (0 : Int32)), .val (.int (3 : Int32)), .val (.int (1 : Int32)), .val (.int (2 : Int32)), .val (.int x2)] [])) (fun t k => XS.goto X38.here hx rfl (pc0 := 64) (pc' := 3) rfl (hb hby own_d_jdk_2529_6_64) (by decide) (by decide) k) ?_
          refine own_by (V := T38.setTop (mkF m 6 #[.val (.ref o0), .val (.int (0 : Int32)), .val (.int (3 : Int32)), .val (.int (1 : Int32)), .val (.int (3 : Int32)), .val (.int x2)] [])) (fun t k => XS.iinc X38.here hx rfl (hb hby own_d_jdk_2529_6_3) rfl (l' := #[.val (.ref o0), .val (.int (0 : Int32)), .val (.int (3 : Int32)), .val (.int (1 : Int32)), .val (.int (3 : Int32)), .val (.int x2)]) rfl k) ?_
          refine own_by (V := T38.setTop (mkF m 8 #[.val (.ref o0), .val (.int (0 : Int32)), .val (.int (3 : Int32)), .val (.int (1 : Int32)), .val (.int (3 : Int32)), .val (.int x2)] [(.int (3 : Int32))])) (fun t k => XS.iload X38.here hx rfl (hb hby own_d_jdk_2529_6_6) rfl  k) ?_
          refine own_by (V := T38.setTop (mkF m 9 #[.val (.ref o0), .val (.int (0 : Int32)), .val (.int (3 : Int32)), .val (.int (1 : Int32)), .val (.int (3 : Int32)), .val (.int x2)] [(.int (3 : Int32)), (.int (3 : Int32))])) (fun t k => XS.iloadN X38.here hx rfl (hb hby own_d_jdk_2529_6_8) rfl  k) ?_
          have hb9_39 : ¬ ((3 : Int32) < (3 : Int32)) := by decide
          refine own_by (V := T38.setTop (mkF m 67 #[.val (.ref o0), .val (.int (0 : Int32)), .val (.int (3 : Int32)), .val (.int (1 : Int32)), .val (.int (3 : Int32)), .val (.int x2)] [])) (fun t k => XS.icmpYes X38.here hx rfl (pc0 := 9) (pc' := 67) rfl (hb hby own_d_jdk_2529_6_9) rfl (flt hb9_39).2.1 (by decide) (by decide) k) ?_
          refine own_ret0 X38 hx hlk e38 Bd.returns (hb hby own_d_jdk_2529_6_67) ?_ (by decide) (by decide)
          exact ⟨rfl, N38, K38, (by have q := own_s3_102 x0 x1 x2 (by (try rw [Int32.lt_iff_toInt_lt] at hb9_1); (try rw [Int32.lt_iff_toInt_lt] at hb27_4); (try rw [Int32.lt_iff_toInt_lt] at hb35_5); (try rw [Int32.lt_iff_toInt_lt] at hb43_7); (try rw [Int32.lt_iff_toInt_lt] at hb35_11); (try rw [Int32.lt_iff_toInt_lt] at hb9_14); (try rw [Int32.lt_iff_toInt_lt] at hb27_17); (try rw [Int32.lt_iff_toInt_lt] at hb35_18); (try rw [Int32.lt_iff_toInt_lt] at hb43_20); (try rw [Int32.lt_iff_toInt_lt] at hb9_39); rw [Int32.lt_iff_toInt_lt]; omega) (by (try rw [Int32.lt_iff_toInt_lt] at hb9_1); (try rw [Int32.lt_iff_toInt_lt] at hb27_4); (try rw [Int32.lt_iff_toInt_lt] at hb35_5); (try rw [Int32.lt_iff_toInt_lt] at hb43_7); (try rw [Int32.lt_iff_toInt_lt] at hb35_11); (try rw [Int32.lt_iff_toInt_lt] at hb9_14); (try rw [Int32.lt_iff_toInt_lt] at hb27_17); (try rw [Int32.lt_iff_toInt_lt] at hb35_18); (try rw [Int32.lt_iff_toInt_lt] at hb43_20); (try rw [Int32.lt_iff_toInt_lt] at hb9_39); rw [Int32.lt_iff_toInt_lt]; omega); rw [q.1, q.2.1, q.2.2]; exact V38)⟩
      · refine own_by (V := T13.setTop (mkF m 64 #[.val (.ref o0), .val (.int (0 : Int32)), .val (.int (3 : Int32)), .val (.int (2 : Int32)), .val (.int (2 : Int32)), .val (.int x2)] [])) (fun t k => XS.icmpYes X13.here hx rfl (pc0 := 27) (pc' := 64) rfl (hb hby own_d_jdk_2529_6_27) rfl (flt hb27_17).2.1 (by decide) (by decide) k) ?_
        refine own_by (V := T13.setTop (mkF m 3 #[.val (.ref o0), .val (.int (0 : Int32)), .val (.int (3 : Int32)), .val (.int (2 : Int32)), .val (.int (2 : Int32)), .val (.int x2)] [])) (fun t k => XS.goto X13.here hx rfl (pc0 := 64) (pc' := 3) rfl (hb hby own_d_jdk_2529_6_64) (by decide) (by decide) k) ?_
        refine own_by (V := T13.setTop (mkF m 6 #[.val (.ref o0), .val (.int (0 : Int32)), .val (.int (3 : Int32)), .val (.int (2 : Int32)), .val (.int (3 : Int32)), .val (.int x2)] [])) (fun t k => XS.iinc X13.here hx rfl (hb hby own_d_jdk_2529_6_3) rfl (l' := #[.val (.ref o0), .val (.int (0 : Int32)), .val (.int (3 : Int32)), .val (.int (2 : Int32)), .val (.int (3 : Int32)), .val (.int x2)]) rfl k) ?_
        refine own_by (V := T13.setTop (mkF m 8 #[.val (.ref o0), .val (.int (0 : Int32)), .val (.int (3 : Int32)), .val (.int (2 : Int32)), .val (.int (3 : Int32)), .val (.int x2)] [(.int (3 : Int32))])) (fun t k => XS.iload X13.here hx rfl (hb hby own_d_jdk_2529_6_6) rfl  k) ?_
        refine own_by (V := T13.setTop (mkF m 9 #[.val (.ref o0), .val (.int (0 : Int32)), .val (.int (3 : Int32)), .val (.int (2 : Int32)), .val (.int (3 : Int32)), .val (.int x2)] [(.int (3 : Int32)), (.int (3 : Int32))])) (fun t k => XS.iloadN X13.here hx rfl (hb hby own_d_jdk_2529_6_8) rfl  k) ?_
        have hb9_40 : ¬ ((3 : Int32) < (3 : Int32)) := by decide
        refine own_by (V := T13.setTop (mkF m 67 #[.val (.ref o0), .val (.int (0 : Int32)), .val (.int (3 : Int32)), .val (.int (2 : Int32)), .val (.int (3 : Int32)), .val (.int x2)] [])) (fun t k => XS.icmpYes X13.here hx rfl (pc0 := 9) (pc' := 67) rfl (hb hby own_d_jdk_2529_6_9) rfl (flt hb9_40).2.1 (by decide) (by decide) k) ?_
        refine own_ret0 X13 hx hlk e13 Bd.returns (hb hby own_d_jdk_2529_6_67) ?_ (by decide) (by decide)
        exact ⟨rfl, N13, K13, (by have q := own_s3_102 x0 x1 x2 (by (try rw [Int32.lt_iff_toInt_lt] at hb9_1); (try rw [Int32.lt_iff_toInt_lt] at hb27_4); (try rw [Int32.lt_iff_toInt_lt] at hb35_5); (try rw [Int32.lt_iff_toInt_lt] at hb43_7); (try rw [Int32.lt_iff_toInt_lt] at hb35_11); (try rw [Int32.lt_iff_toInt_lt] at hb9_14); (try rw [Int32.lt_iff_toInt_lt] at hb27_17); (try rw [Int32.lt_iff_toInt_lt] at hb9_40); rw [Int32.lt_iff_toInt_lt]; omega) (by (try rw [Int32.lt_iff_toInt_lt] at hb9_1); (try rw [Int32.lt_iff_toInt_lt] at hb27_4); (try rw [Int32.lt_iff_toInt_lt] at hb35_5); (try rw [Int32.lt_iff_toInt_lt] at hb43_7); (try rw [Int32.lt_iff_toInt_lt] at hb35_11); (try rw [Int32.lt_iff_toInt_lt] at hb9_14); (try rw [Int32.lt_iff_toInt_lt] at hb27_17); (try rw [Int32.lt_iff_toInt_lt] at hb9_40); rw [Int32.lt_iff_toInt_lt]; omega); rw [q.1, q.2.1, q.2.2]; exact V13)⟩
    · refine own_by (V := s₁.setTop (mkF m 57 #[.val (.ref o0), .val (.int (0 : Int32)), .val (.int (3 : Int32)), .val (.int (0 : Int32)), .val (.int (1 : Int32)), .val (.int x1)] [])) (fun t k => XS.icmpYes X0.here hx rfl (pc0 := 43) (pc' := 57) rfl (hb hby own_d_jdk_2529_6_43) rfl (flt hb43_7).2.1 (by decide) (by decide) k) ?_
      refine own_by (V := s₁.setTop (mkF m 58 #[.val (.ref o0), .val (.int (0 : Int32)), .val (.int (3 : Int32)), .val (.int (0 : Int32)), .val (.int (1 : Int32)), .val (.int x1)] [(.ref o0)])) (fun t k => XS.aloadN X0.here hx rfl (hb hby own_d_jdk_2529_6_57) rfl rfl k) ?_
      refine own_by (V := s₁.setTop (mkF m 59 #[.val (.ref o0), .val (.int (0 : Int32)), .val (.int (3 : Int32)), .val (.int (0 : Int32)), .val (.int (1 : Int32)), .val (.int x1)] [(.int (0 : Int32)), (.ref o0)])) (fun t k => XS.iloadN X0.here hx rfl (hb hby own_d_jdk_2529_6_58) rfl  k) ?_
      refine own_by (V := s₁.setTop (mkF m 60 #[.val (.ref o0), .val (.int (0 : Int32)), .val (.int (3 : Int32)), .val (.int (0 : Int32)), .val (.int (1 : Int32)), .val (.int x1)] [(.int (1 : Int32)), (.int (0 : Int32)), (.ref o0)])) (fun t k => XS.iconst X0.here hx rfl (hb hby own_d_jdk_2529_6_59) k) ?_
      refine own_by (V := s₁.setTop (mkF m 61 #[.val (.ref o0), .val (.int (0 : Int32)), .val (.int (3 : Int32)), .val (.int (0 : Int32)), .val (.int (1 : Int32)), .val (.int x1)] [(.int (1 : Int32)), (.ref o0)])) (fun t k => XS.iadd X0.here hx rfl (hb hby own_d_jdk_2529_6_60) rfl k) ?_
      refine own_by (V := s₁.setTop (mkF m 63 #[.val (.ref o0), .val (.int (0 : Int32)), .val (.int (3 : Int32)), .val (.int (0 : Int32)), .val (.int (1 : Int32)), .val (.int x1)] [(.int x1), (.int (1 : Int32)), (.ref o0)])) (fun t k => XS.iload X0.here hx rfl (hb hby own_d_jdk_2529_6_61) rfl  k) ?_
      obtain ⟨cl41, Ar41, qa41, Sa41, Ma41, Ha41, Ua41⟩ := id A0
      obtain ⟨T42, h42, X42, e42, W42, st42⟩ := stI X0 hx hZ e0 Ar41 (j := (1 : Int32)) (inb_of Sa41 ⟨(by decide), (by decide)⟩) (g := (mkF m 63 #[.val (.ref o0), .val (.int (0 : Int32)), .val (.int (3 : Int32)), .val (.int (0 : Int32)), .val (.int (1 : Int32)), .val (.int x1)] [(.int x1), (.int (1 : Int32)), (.ref o0)])) rfl rfl (hb hby own_d_jdk_2529_6_63)
      have N42 := Fr.snoc X42 N0 g0
      have K42 := (Keep.refl h0 [o0]).wr W42 (Or.inl (List.mem_of_getElem? (i := 0) rfl))
      have Zs42 : n0 ≤ h42.size := by rw [W42.size]; exact Z0
      have V42 : Arv Z h42 o0 kb .int (3 : Int32) [(.int x0), (.int x1), (.int x2)] (.int (0 : Int32)) := Arv.set Ar41 qa41 Sa41 Ma41 Ha41 Ua41 rfl W42 1 (by decide) (by simp)
      refine own_by (V := T42.setTop (mkF m 64 #[.val (.ref o0), .val (.int (0 : Int32)), .val (.int (3 : Int32)), .val (.int (0 : Int32)), .val (.int (1 : Int32)), .val (.int x1)] [])) st42 ?_
      refine own_by (V := T42.setTop (mkF m 3 #[.val (.ref o0), .val (.int (0 : Int32)), .val (.int (3 : Int32)), .val (.int (0 : Int32)), .val (.int (1 : Int32)), .val (.int x1)] [])) (fun t k => XS.goto X42.here hx rfl (pc0 := 64) (pc' := 3) rfl (hb hby own_d_jdk_2529_6_64) (by decide) (by decide) k) ?_
      refine own_by (V := T42.setTop (mkF m 6 #[.val (.ref o0), .val (.int (0 : Int32)), .val (.int (3 : Int32)), .val (.int (0 : Int32)), .val (.int (2 : Int32)), .val (.int x1)] [])) (fun t k => XS.iinc X42.here hx rfl (hb hby own_d_jdk_2529_6_3) rfl (l' := #[.val (.ref o0), .val (.int (0 : Int32)), .val (.int (3 : Int32)), .val (.int (0 : Int32)), .val (.int (2 : Int32)), .val (.int x1)]) rfl k) ?_
      refine own_by (V := T42.setTop (mkF m 8 #[.val (.ref o0), .val (.int (0 : Int32)), .val (.int (3 : Int32)), .val (.int (0 : Int32)), .val (.int (2 : Int32)), .val (.int x1)] [(.int (2 : Int32))])) (fun t k => XS.iload X42.here hx rfl (hb hby own_d_jdk_2529_6_6) rfl  k) ?_
      refine own_by (V := T42.setTop (mkF m 9 #[.val (.ref o0), .val (.int (0 : Int32)), .val (.int (3 : Int32)), .val (.int (0 : Int32)), .val (.int (2 : Int32)), .val (.int x1)] [(.int (3 : Int32)), (.int (2 : Int32))])) (fun t k => XS.iloadN X42.here hx rfl (hb hby own_d_jdk_2529_6_8) rfl  k) ?_
      have hb9_43 : ((2 : Int32) < (3 : Int32)) := by decide
      refine own_by (V := T42.setTop (mkF m 12 #[.val (.ref o0), .val (.int (0 : Int32)), .val (.int (3 : Int32)), .val (.int (0 : Int32)), .val (.int (2 : Int32)), .val (.int x1)] [])) (fun t k => XS.icmpNo X42.here hx rfl (hb hby own_d_jdk_2529_6_9) rfl (tlt hb9_43).2.1 k) ?_
      refine own_by (V := T42.setTop (mkF m 13 #[.val (.ref o0), .val (.int (0 : Int32)), .val (.int (3 : Int32)), .val (.int (0 : Int32)), .val (.int (2 : Int32)), .val (.int x1)] [(.ref o0)])) (fun t k => XS.aloadN X42.here hx rfl (hb hby own_d_jdk_2529_6_12) rfl rfl k) ?_
      refine own_by (V := T42.setTop (mkF m 15 #[.val (.ref o0), .val (.int (0 : Int32)), .val (.int (3 : Int32)), .val (.int (0 : Int32)), .val (.int (2 : Int32)), .val (.int x1)] [(.int (2 : Int32)), (.ref o0)])) (fun t k => XS.iload X42.here hx rfl (hb hby own_d_jdk_2529_6_13) rfl  k) ?_
      refine own_by (V := T42.setTop (mkF m 16 #[.val (.ref o0), .val (.int (0 : Int32)), .val (.int (3 : Int32)), .val (.int (0 : Int32)), .val (.int (2 : Int32)), .val (.int x1)] [(.int (2 : Int32)), (.int (2 : Int32)), (.ref o0)])) (fun t k => XS.dup X42.here hx rfl (hb hby own_d_jdk_2529_6_15) rfl rfl k) ?_
      refine own_by (V := T42.setTop (mkF m 17 #[.val (.ref o0), .val (.int (0 : Int32)), .val (.int (3 : Int32)), .val (.int (2 : Int32)), .val (.int (2 : Int32)), .val (.int x1)] [(.int (2 : Int32)), (.ref o0)])) (fun t k => XS.istoreN X42.here hx rfl (hb hby own_d_jdk_2529_6_16) rfl (l' := #[.val (.ref o0), .val (.int (0 : Int32)), .val (.int (3 : Int32)), .val (.int (2 : Int32)), .val (.int (2 : Int32)), .val (.int x1)]) rfl k) ?_
      obtain ⟨cl44, Ar44, qa44, Sa44, Ma44, Ha44, Ua44⟩ := id V42
      have hi44 := inb_of Sa44 (j := (2 : Int32)) ⟨(by decide), (by decide)⟩
      refine own_by (V := T42.setTop (mkF m 18 #[.val (.ref o0), .val (.int (0 : Int32)), .val (.int (3 : Int32)), .val (.int (2 : Int32)), .val (.int (2 : Int32)), .val (.int x1)] [(.int x2)])) (X42.iaload hx (j := (2 : Int32)) (v := (.int x2)) (by rw [e42]; exact Ar44.1) (State.isArrayOf_alike hZ.alike Ar44.2.1) Ar44.2.2 hi44 (Has.at Ha44 hi44 rfl) (g := (mkF m 17 #[.val (.ref o0), .val (.int (0 : Int32)), .val (.int (3 : Int32)), .val (.int (2 : Int32)), .val (.int (2 : Int32)), .val (.int x1)] [(.int (2 : Int32)), (.ref o0)])) rfl rfl (hb hby own_d_jdk_2529_6_17)) ?_
      refine own_by (V := T42.setTop (mkF m 20 #[.val (.ref o0), .val (.int (0 : Int32)), .val (.int (3 : Int32)), .val (.int (2 : Int32)), .val (.int (2 : Int32)), .val (.int x2)] [])) (fun t k => XS.istore X42.here hx rfl (hb hby own_d_jdk_2529_6_18) rfl (l' := #[.val (.ref o0), .val (.int (0 : Int32)), .val (.int (3 : Int32)), .val (.int (2 : Int32)), .val (.int (2 : Int32)), .val (.int x2)]) rfl k) ?_
      refine own_by (V := T42.setTop (mkF m 22 #[.val (.ref o0), .val (.int (0 : Int32)), .val (.int (3 : Int32)), .val (.int (2 : Int32)), .val (.int (2 : Int32)), .val (.int x2)] [(.int x2)])) (fun t k => XS.iload X42.here hx rfl (hb hby own_d_jdk_2529_6_20) rfl  k) ?_
      refine own_by (V := T42.setTop (mkF m 23 #[.val (.ref o0), .val (.int (0 : Int32)), .val (.int (3 : Int32)), .val (.int (2 : Int32)), .val (.int (2 : Int32)), .val (.int x2)] [(.ref o0), (.int x2)])) (fun t k => XS.aloadN X42.here hx rfl (hb hby own_d_jdk_2529_6_22) rfl rfl k) ?_
      refine own_by (V := T42.setTop (mkF m 24 #[.val (.ref o0), .val (.int (0 : Int32)), .val (.int (3 : Int32)), .val (.int (2 : Int32)), .val (.int (2 : Int32)), .val (.int x2)] [(.int (2 : Int32)), (.ref o0), (.int x2)])) (fun t k => XS.iloadN X42.here hx rfl (hb hby own_d_jdk_2529_6_23) rfl  k) ?_
      refine own_by (V := T42.setTop (mkF m 25 #[.val (.ref o0), .val (.int (0 : Int32)), .val (.int (3 : Int32)), .val (.int (2 : Int32)), .val (.int (2 : Int32)), .val (.int x2)] [(.int (1 : Int32)), (.int (2 : Int32)), (.ref o0), (.int x2)])) (fun t k => XS.iconst X42.here hx rfl (hb hby own_d_jdk_2529_6_24) k) ?_
      refine own_by (V := T42.setTop (mkF m 26 #[.val (.ref o0), .val (.int (0 : Int32)), .val (.int (3 : Int32)), .val (.int (2 : Int32)), .val (.int (2 : Int32)), .val (.int x2)] [(.int (1 : Int32)), (.ref o0), (.int x2)])) (fun t k => XS.isub X42.here hx rfl (hb hby own_d_jdk_2529_6_25) rfl k) ?_
      obtain ⟨cl45, Ar45, qa45, Sa45, Ma45, Ha45, Ua45⟩ := id V42
      have hi45 := inb_of Sa45 (j := (1 : Int32)) ⟨(by decide), (by decide)⟩
      refine own_by (V := T42.setTop (mkF m 27 #[.val (.ref o0), .val (.int (0 : Int32)), .val (.int (3 : Int32)), .val (.int (2 : Int32)), .val (.int (2 : Int32)), .val (.int x2)] [(.int x1), (.int x2)])) (X42.iaload hx (j := (1 : Int32)) (v := (.int x1)) (by rw [e42]; exact Ar45.1) (State.isArrayOf_alike hZ.alike Ar45.2.1) Ar45.2.2 hi45 (Has.at Ha45 hi45 rfl) (g := (mkF m 26 #[.val (.ref o0), .val (.int (0 : Int32)), .val (.int (3 : Int32)), .val (.int (2 : Int32)), .val (.int (2 : Int32)), .val (.int x2)] [(.int (1 : Int32)), (.ref o0), (.int x2)])) rfl rfl (hb hby own_d_jdk_2529_6_26)) ?_
      by_cases hb27_46 : x2 < x1
      · refine own_by (V := T42.setTop (mkF m 30 #[.val (.ref o0), .val (.int (0 : Int32)), .val (.int (3 : Int32)), .val (.int (2 : Int32)), .val (.int (2 : Int32)), .val (.int x2)] [])) (fun t k => XS.icmpNo X42.here hx rfl (hb hby own_d_jdk_2529_6_27) rfl (tlt hb27_46).2.1 k) ?_
        refine own_by (V := T42.setTop (mkF m 33 #[.val (.ref o0), .val (.int (0 : Int32)), .val (.int (3 : Int32)), .val (.int (1 : Int32)), .val (.int (2 : Int32)), .val (.int x2)] [])) (fun t k => XS.iinc X42.here hx rfl (hb hby own_d_jdk_2529_6_30) rfl (l' := #[.val (.ref o0), .val (.int (0 : Int32)), .val (.int (3 : Int32)), .val (.int (1 : Int32)), .val (.int (2 : Int32)), .val (.int x2)]) rfl k) ?_
        refine own_by (V := T42.setTop (mkF m 34 #[.val (.ref o0), .val (.int (0 : Int32)), .val (.int (3 : Int32)), .val (.int (1 : Int32)), .val (.int (2 : Int32)), .val (.int x2)] [(.int (1 : Int32))])) (fun t k => XS.iloadN X42.here hx rfl (hb hby own_d_jdk_2529_6_33) rfl  k) ?_
        refine own_by (V := T42.setTop (mkF m 35 #[.val (.ref o0), .val (.int (0 : Int32)), .val (.int (3 : Int32)), .val (.int (1 : Int32)), .val (.int (2 : Int32)), .val (.int x2)] [(.int (0 : Int32)), (.int (1 : Int32))])) (fun t k => XS.iloadN X42.here hx rfl (hb hby own_d_jdk_2529_6_34) rfl  k) ?_
        have hb35_47 : ¬ ((1 : Int32) < (0 : Int32)) := by decide
        refine own_by (V := T42.setTop (mkF m 38 #[.val (.ref o0), .val (.int (0 : Int32)), .val (.int (3 : Int32)), .val (.int (1 : Int32)), .val (.int (2 : Int32)), .val (.int x2)] [])) (fun t k => XS.icmpNo X42.here hx rfl (hb hby own_d_jdk_2529_6_35) rfl (flt hb35_47).1 k) ?_
        refine own_by (V := T42.setTop (mkF m 40 #[.val (.ref o0), .val (.int (0 : Int32)), .val (.int (3 : Int32)), .val (.int (1 : Int32)), .val (.int (2 : Int32)), .val (.int x2)] [(.int x2)])) (fun t k => XS.iload X42.here hx rfl (hb hby own_d_jdk_2529_6_38) rfl  k) ?_
        refine own_by (V := T42.setTop (mkF m 41 #[.val (.ref o0), .val (.int (0 : Int32)), .val (.int (3 : Int32)), .val (.int (1 : Int32)), .val (.int (2 : Int32)), .val (.int x2)] [(.ref o0), (.int x2)])) (fun t k => XS.aloadN X42.here hx rfl (hb hby own_d_jdk_2529_6_40) rfl rfl k) ?_
        refine own_by (V := T42.setTop (mkF m 42 #[.val (.ref o0), .val (.int (0 : Int32)), .val (.int (3 : Int32)), .val (.int (1 : Int32)), .val (.int (2 : Int32)), .val (.int x2)] [(.int (1 : Int32)), (.ref o0), (.int x2)])) (fun t k => XS.iloadN X42.here hx rfl (hb hby own_d_jdk_2529_6_41) rfl  k) ?_
        obtain ⟨cl48, Ar48, qa48, Sa48, Ma48, Ha48, Ua48⟩ := id V42
        have hi48 := inb_of Sa48 (j := (1 : Int32)) ⟨(by decide), (by decide)⟩
        refine own_by (V := T42.setTop (mkF m 43 #[.val (.ref o0), .val (.int (0 : Int32)), .val (.int (3 : Int32)), .val (.int (1 : Int32)), .val (.int (2 : Int32)), .val (.int x2)] [(.int x1), (.int x2)])) (X42.iaload hx (j := (1 : Int32)) (v := (.int x1)) (by rw [e42]; exact Ar48.1) (State.isArrayOf_alike hZ.alike Ar48.2.1) Ar48.2.2 hi48 (Has.at Ha48 hi48 rfl) (g := (mkF m 42 #[.val (.ref o0), .val (.int (0 : Int32)), .val (.int (3 : Int32)), .val (.int (1 : Int32)), .val (.int (2 : Int32)), .val (.int x2)] [(.int (1 : Int32)), (.ref o0), (.int x2)])) rfl rfl (hb hby own_d_jdk_2529_6_42)) ?_
        by_cases hb43_49 : x2 < x1
        · refine own_by (V := T42.setTop (mkF m 46 #[.val (.ref o0), .val (.int (0 : Int32)), .val (.int (3 : Int32)), .val (.int (1 : Int32)), .val (.int (2 : Int32)), .val (.int x2)] [])) (fun t k => XS.icmpNo X42.here hx rfl (hb hby own_d_jdk_2529_6_43) rfl (tlt hb43_49).2.1 k) ?_
          refine own_by (V := T42.setTop (mkF m 47 #[.val (.ref o0), .val (.int (0 : Int32)), .val (.int (3 : Int32)), .val (.int (1 : Int32)), .val (.int (2 : Int32)), .val (.int x2)] [(.ref o0)])) (fun t k => XS.aloadN X42.here hx rfl (hb hby own_d_jdk_2529_6_46) rfl rfl k) ?_
          refine own_by (V := T42.setTop (mkF m 48 #[.val (.ref o0), .val (.int (0 : Int32)), .val (.int (3 : Int32)), .val (.int (1 : Int32)), .val (.int (2 : Int32)), .val (.int x2)] [(.int (1 : Int32)), (.ref o0)])) (fun t k => XS.iloadN X42.here hx rfl (hb hby own_d_jdk_2529_6_47) rfl  k) ?_
          refine own_by (V := T42.setTop (mkF m 49 #[.val (.ref o0), .val (.int (0 : Int32)), .val (.int (3 : Int32)), .val (.int (1 : Int32)), .val (.int (2 : Int32)), .val (.int x2)] [(.int (1 : Int32)), (.int (1 : Int32)), (.ref o0)])) (fun t k => XS.iconst X42.here hx rfl (hb hby own_d_jdk_2529_6_48) k) ?_
          refine own_by (V := T42.setTop (mkF m 50 #[.val (.ref o0), .val (.int (0 : Int32)), .val (.int (3 : Int32)), .val (.int (1 : Int32)), .val (.int (2 : Int32)), .val (.int x2)] [(.int (2 : Int32)), (.ref o0)])) (fun t k => XS.iadd X42.here hx rfl (hb hby own_d_jdk_2529_6_49) rfl k) ?_
          refine own_by (V := T42.setTop (mkF m 51 #[.val (.ref o0), .val (.int (0 : Int32)), .val (.int (3 : Int32)), .val (.int (1 : Int32)), .val (.int (2 : Int32)), .val (.int x2)] [(.ref o0), (.int (2 : Int32)), (.ref o0)])) (fun t k => XS.aloadN X42.here hx rfl (hb hby own_d_jdk_2529_6_50) rfl rfl k) ?_
          refine own_by (V := T42.setTop (mkF m 52 #[.val (.ref o0), .val (.int (0 : Int32)), .val (.int (3 : Int32)), .val (.int (1 : Int32)), .val (.int (2 : Int32)), .val (.int x2)] [(.int (1 : Int32)), (.ref o0), (.int (2 : Int32)), (.ref o0)])) (fun t k => XS.iloadN X42.here hx rfl (hb hby own_d_jdk_2529_6_51) rfl  k) ?_
          obtain ⟨cl50, Ar50, qa50, Sa50, Ma50, Ha50, Ua50⟩ := id V42
          have hi50 := inb_of Sa50 (j := (1 : Int32)) ⟨(by decide), (by decide)⟩
          refine own_by (V := T42.setTop (mkF m 53 #[.val (.ref o0), .val (.int (0 : Int32)), .val (.int (3 : Int32)), .val (.int (1 : Int32)), .val (.int (2 : Int32)), .val (.int x2)] [(.int x1), (.int (2 : Int32)), (.ref o0)])) (X42.iaload hx (j := (1 : Int32)) (v := (.int x1)) (by rw [e42]; exact Ar50.1) (State.isArrayOf_alike hZ.alike Ar50.2.1) Ar50.2.2 hi50 (Has.at Ha50 hi50 rfl) (g := (mkF m 52 #[.val (.ref o0), .val (.int (0 : Int32)), .val (.int (3 : Int32)), .val (.int (1 : Int32)), .val (.int (2 : Int32)), .val (.int x2)] [(.int (1 : Int32)), (.ref o0), (.int (2 : Int32)), (.ref o0)])) rfl rfl (hb hby own_d_jdk_2529_6_52)) ?_
          obtain ⟨cl51, Ar51, qa51, Sa51, Ma51, Ha51, Ua51⟩ := id V42
          obtain ⟨T52, h52, X52, e52, W52, st52⟩ := stI X42 hx hZ e42 Ar51 (j := (2 : Int32)) (inb_of Sa51 ⟨(by decide), (by decide)⟩) (g := (mkF m 53 #[.val (.ref o0), .val (.int (0 : Int32)), .val (.int (3 : Int32)), .val (.int (1 : Int32)), .val (.int (2 : Int32)), .val (.int x2)] [(.int x1), (.int (2 : Int32)), (.ref o0)])) rfl rfl (hb hby own_d_jdk_2529_6_53)
          have N52 := Fr.snoc X52 N42 g0
          have K52 := K42.wr W52 (Or.inl (List.mem_of_getElem? (i := 0) rfl))
          have Zs52 : n0 ≤ h52.size := by rw [W52.size]; exact Zs42
          have V52 : Arv Z h52 o0 kb .int (3 : Int32) [(.int x0), (.int x1), (.int x1)] (.int (0 : Int32)) := Arv.set Ar51 qa51 Sa51 Ma51 Ha51 Ua51 rfl W52 2 (by decide) (by simp)
          refine own_by (V := T52.setTop (mkF m 54 #[.val (.ref o0), .val (.int (0 : Int32)), .val (.int (3 : Int32)), .val (.int (1 : Int32)), .val (.int (2 : Int32)), .val (.int x2)] [])) st52 ?_
          refine own_by (V := T52.setTop (mkF m 30 #[.val (.ref o0), .val (.int (0 : Int32)), .val (.int (3 : Int32)), .val (.int (1 : Int32)), .val (.int (2 : Int32)), .val (.int x2)] [])) (fun t k => XS.goto X52.here hx rfl (pc0 := 54) (pc' := 30) rfl (hb hby own_d_jdk_2529_6_54) (by decide) (by decide) k) ?_
          refine own_by (V := T52.setTop (mkF m 33 #[.val (.ref o0), .val (.int (0 : Int32)), .val (.int (3 : Int32)), .val (.int (0 : Int32)), .val (.int (2 : Int32)), .val (.int x2)] [])) (fun t k => XS.iinc X52.here hx rfl (hb hby own_d_jdk_2529_6_30) rfl (l' := #[.val (.ref o0), .val (.int (0 : Int32)), .val (.int (3 : Int32)), .val (.int (0 : Int32)), .val (.int (2 : Int32)), .val (.int x2)]) rfl k) ?_
          refine own_by (V := T52.setTop (mkF m 34 #[.val (.ref o0), .val (.int (0 : Int32)), .val (.int (3 : Int32)), .val (.int (0 : Int32)), .val (.int (2 : Int32)), .val (.int x2)] [(.int (0 : Int32))])) (fun t k => XS.iloadN X52.here hx rfl (hb hby own_d_jdk_2529_6_33) rfl  k) ?_
          refine own_by (V := T52.setTop (mkF m 35 #[.val (.ref o0), .val (.int (0 : Int32)), .val (.int (3 : Int32)), .val (.int (0 : Int32)), .val (.int (2 : Int32)), .val (.int x2)] [(.int (0 : Int32)), (.int (0 : Int32))])) (fun t k => XS.iloadN X52.here hx rfl (hb hby own_d_jdk_2529_6_34) rfl  k) ?_
          have hb35_53 : ¬ ((0 : Int32) < (0 : Int32)) := by decide
          refine own_by (V := T52.setTop (mkF m 38 #[.val (.ref o0), .val (.int (0 : Int32)), .val (.int (3 : Int32)), .val (.int (0 : Int32)), .val (.int (2 : Int32)), .val (.int x2)] [])) (fun t k => XS.icmpNo X52.here hx rfl (hb hby own_d_jdk_2529_6_35) rfl (flt hb35_53).1 k) ?_
          refine own_by (V := T52.setTop (mkF m 40 #[.val (.ref o0), .val (.int (0 : Int32)), .val (.int (3 : Int32)), .val (.int (0 : Int32)), .val (.int (2 : Int32)), .val (.int x2)] [(.int x2)])) (fun t k => XS.iload X52.here hx rfl (hb hby own_d_jdk_2529_6_38) rfl  k) ?_
          refine own_by (V := T52.setTop (mkF m 41 #[.val (.ref o0), .val (.int (0 : Int32)), .val (.int (3 : Int32)), .val (.int (0 : Int32)), .val (.int (2 : Int32)), .val (.int x2)] [(.ref o0), (.int x2)])) (fun t k => XS.aloadN X52.here hx rfl (hb hby own_d_jdk_2529_6_40) rfl rfl k) ?_
          refine own_by (V := T52.setTop (mkF m 42 #[.val (.ref o0), .val (.int (0 : Int32)), .val (.int (3 : Int32)), .val (.int (0 : Int32)), .val (.int (2 : Int32)), .val (.int x2)] [(.int (0 : Int32)), (.ref o0), (.int x2)])) (fun t k => XS.iloadN X52.here hx rfl (hb hby own_d_jdk_2529_6_41) rfl  k) ?_
          obtain ⟨cl54, Ar54, qa54, Sa54, Ma54, Ha54, Ua54⟩ := id V52
          have hi54 := inb_of Sa54 (j := (0 : Int32)) ⟨(by decide), (by decide)⟩
          refine own_by (V := T52.setTop (mkF m 43 #[.val (.ref o0), .val (.int (0 : Int32)), .val (.int (3 : Int32)), .val (.int (0 : Int32)), .val (.int (2 : Int32)), .val (.int x2)] [(.int x0), (.int x2)])) (X52.iaload hx (j := (0 : Int32)) (v := (.int x0)) (by rw [e52]; exact Ar54.1) (State.isArrayOf_alike hZ.alike Ar54.2.1) Ar54.2.2 hi54 (Has.at Ha54 hi54 rfl) (g := (mkF m 42 #[.val (.ref o0), .val (.int (0 : Int32)), .val (.int (3 : Int32)), .val (.int (0 : Int32)), .val (.int (2 : Int32)), .val (.int x2)] [(.int (0 : Int32)), (.ref o0), (.int x2)])) rfl rfl (hb hby own_d_jdk_2529_6_42)) ?_
          by_cases hb43_55 : x2 < x0
          · refine own_by (V := T52.setTop (mkF m 46 #[.val (.ref o0), .val (.int (0 : Int32)), .val (.int (3 : Int32)), .val (.int (0 : Int32)), .val (.int (2 : Int32)), .val (.int x2)] [])) (fun t k => XS.icmpNo X52.here hx rfl (hb hby own_d_jdk_2529_6_43) rfl (tlt hb43_55).2.1 k) ?_
            refine own_by (V := T52.setTop (mkF m 47 #[.val (.ref o0), .val (.int (0 : Int32)), .val (.int (3 : Int32)), .val (.int (0 : Int32)), .val (.int (2 : Int32)), .val (.int x2)] [(.ref o0)])) (fun t k => XS.aloadN X52.here hx rfl (hb hby own_d_jdk_2529_6_46) rfl rfl k) ?_
            refine own_by (V := T52.setTop (mkF m 48 #[.val (.ref o0), .val (.int (0 : Int32)), .val (.int (3 : Int32)), .val (.int (0 : Int32)), .val (.int (2 : Int32)), .val (.int x2)] [(.int (0 : Int32)), (.ref o0)])) (fun t k => XS.iloadN X52.here hx rfl (hb hby own_d_jdk_2529_6_47) rfl  k) ?_
            refine own_by (V := T52.setTop (mkF m 49 #[.val (.ref o0), .val (.int (0 : Int32)), .val (.int (3 : Int32)), .val (.int (0 : Int32)), .val (.int (2 : Int32)), .val (.int x2)] [(.int (1 : Int32)), (.int (0 : Int32)), (.ref o0)])) (fun t k => XS.iconst X52.here hx rfl (hb hby own_d_jdk_2529_6_48) k) ?_
            refine own_by (V := T52.setTop (mkF m 50 #[.val (.ref o0), .val (.int (0 : Int32)), .val (.int (3 : Int32)), .val (.int (0 : Int32)), .val (.int (2 : Int32)), .val (.int x2)] [(.int (1 : Int32)), (.ref o0)])) (fun t k => XS.iadd X52.here hx rfl (hb hby own_d_jdk_2529_6_49) rfl k) ?_
            refine own_by (V := T52.setTop (mkF m 51 #[.val (.ref o0), .val (.int (0 : Int32)), .val (.int (3 : Int32)), .val (.int (0 : Int32)), .val (.int (2 : Int32)), .val (.int x2)] [(.ref o0), (.int (1 : Int32)), (.ref o0)])) (fun t k => XS.aloadN X52.here hx rfl (hb hby own_d_jdk_2529_6_50) rfl rfl k) ?_
            refine own_by (V := T52.setTop (mkF m 52 #[.val (.ref o0), .val (.int (0 : Int32)), .val (.int (3 : Int32)), .val (.int (0 : Int32)), .val (.int (2 : Int32)), .val (.int x2)] [(.int (0 : Int32)), (.ref o0), (.int (1 : Int32)), (.ref o0)])) (fun t k => XS.iloadN X52.here hx rfl (hb hby own_d_jdk_2529_6_51) rfl  k) ?_
            obtain ⟨cl56, Ar56, qa56, Sa56, Ma56, Ha56, Ua56⟩ := id V52
            have hi56 := inb_of Sa56 (j := (0 : Int32)) ⟨(by decide), (by decide)⟩
            refine own_by (V := T52.setTop (mkF m 53 #[.val (.ref o0), .val (.int (0 : Int32)), .val (.int (3 : Int32)), .val (.int (0 : Int32)), .val (.int (2 : Int32)), .val (.int x2)] [(.int x0), (.int (1 : Int32)), (.ref o0)])) (X52.iaload hx (j := (0 : Int32)) (v := (.int x0)) (by rw [e52]; exact Ar56.1) (State.isArrayOf_alike hZ.alike Ar56.2.1) Ar56.2.2 hi56 (Has.at Ha56 hi56 rfl) (g := (mkF m 52 #[.val (.ref o0), .val (.int (0 : Int32)), .val (.int (3 : Int32)), .val (.int (0 : Int32)), .val (.int (2 : Int32)), .val (.int x2)] [(.int (0 : Int32)), (.ref o0), (.int (1 : Int32)), (.ref o0)])) rfl rfl (hb hby own_d_jdk_2529_6_52)) ?_
            obtain ⟨cl57, Ar57, qa57, Sa57, Ma57, Ha57, Ua57⟩ := id V52
            obtain ⟨T58, h58, X58, e58, W58, st58⟩ := stI X52 hx hZ e52 Ar57 (j := (1 : Int32)) (inb_of Sa57 ⟨(by decide), (by decide)⟩) (g := (mkF m 53 #[.val (.ref o0), .val (.int (0 : Int32)), .val (.int (3 : Int32)), .val (.int (0 : Int32)), .val (.int (2 : Int32)), .val (.int x2)] [(.int x0), (.int (1 : Int32)), (.ref o0)])) rfl rfl (hb hby own_d_jdk_2529_6_53)
            have N58 := Fr.snoc X58 N52 g0
            have K58 := K52.wr W58 (Or.inl (List.mem_of_getElem? (i := 0) rfl))
            have Zs58 : n0 ≤ h58.size := by rw [W58.size]; exact Zs52
            have V58 : Arv Z h58 o0 kb .int (3 : Int32) [(.int x0), (.int x0), (.int x1)] (.int (0 : Int32)) := Arv.set Ar57 qa57 Sa57 Ma57 Ha57 Ua57 rfl W58 1 (by decide) (by simp)
            refine own_by (V := T58.setTop (mkF m 54 #[.val (.ref o0), .val (.int (0 : Int32)), .val (.int (3 : Int32)), .val (.int (0 : Int32)), .val (.int (2 : Int32)), .val (.int x2)] [])) st58 ?_
            refine own_by (V := T58.setTop (mkF m 30 #[.val (.ref o0), .val (.int (0 : Int32)), .val (.int (3 : Int32)), .val (.int (0 : Int32)), .val (.int (2 : Int32)), .val (.int x2)] [])) (fun t k => XS.goto X58.here hx rfl (pc0 := 54) (pc' := 30) rfl (hb hby own_d_jdk_2529_6_54) (by decide) (by decide) k) ?_
            refine own_by (V := T58.setTop (mkF m 33 #[.val (.ref o0), .val (.int (0 : Int32)), .val (.int (3 : Int32)), .val (.int (-1 : Int32)), .val (.int (2 : Int32)), .val (.int x2)] [])) (fun t k => XS.iinc X58.here hx rfl (hb hby own_d_jdk_2529_6_30) rfl (l' := #[.val (.ref o0), .val (.int (0 : Int32)), .val (.int (3 : Int32)), .val (.int (-1 : Int32)), .val (.int (2 : Int32)), .val (.int x2)]) rfl k) ?_
            refine own_by (V := T58.setTop (mkF m 34 #[.val (.ref o0), .val (.int (0 : Int32)), .val (.int (3 : Int32)), .val (.int (-1 : Int32)), .val (.int (2 : Int32)), .val (.int x2)] [(.int (-1 : Int32))])) (fun t k => XS.iloadN X58.here hx rfl (hb hby own_d_jdk_2529_6_33) rfl  k) ?_
            refine own_by (V := T58.setTop (mkF m 35 #[.val (.ref o0), .val (.int (0 : Int32)), .val (.int (3 : Int32)), .val (.int (-1 : Int32)), .val (.int (2 : Int32)), .val (.int x2)] [(.int (0 : Int32)), (.int (-1 : Int32))])) (fun t k => XS.iloadN X58.here hx rfl (hb hby own_d_jdk_2529_6_34) rfl  k) ?_
            have hb35_59 : ((-1 : Int32) < (0 : Int32)) := by decide
            refine own_by (V := T58.setTop (mkF m 57 #[.val (.ref o0), .val (.int (0 : Int32)), .val (.int (3 : Int32)), .val (.int (-1 : Int32)), .val (.int (2 : Int32)), .val (.int x2)] [])) (fun t k => XS.icmpYes X58.here hx rfl (pc0 := 35) (pc' := 57) rfl (hb hby own_d_jdk_2529_6_35) rfl (tlt hb35_59).1 (by decide) (by decide) k) ?_
            refine own_by (V := T58.setTop (mkF m 58 #[.val (.ref o0), .val (.int (0 : Int32)), .val (.int (3 : Int32)), .val (.int (-1 : Int32)), .val (.int (2 : Int32)), .val (.int x2)] [(.ref o0)])) (fun t k => XS.aloadN X58.here hx rfl (hb hby own_d_jdk_2529_6_57) rfl rfl k) ?_
            refine own_by (V := T58.setTop (mkF m 59 #[.val (.ref o0), .val (.int (0 : Int32)), .val (.int (3 : Int32)), .val (.int (-1 : Int32)), .val (.int (2 : Int32)), .val (.int x2)] [(.int (-1 : Int32)), (.ref o0)])) (fun t k => XS.iloadN X58.here hx rfl (hb hby own_d_jdk_2529_6_58) rfl  k) ?_
            refine own_by (V := T58.setTop (mkF m 60 #[.val (.ref o0), .val (.int (0 : Int32)), .val (.int (3 : Int32)), .val (.int (-1 : Int32)), .val (.int (2 : Int32)), .val (.int x2)] [(.int (1 : Int32)), (.int (-1 : Int32)), (.ref o0)])) (fun t k => XS.iconst X58.here hx rfl (hb hby own_d_jdk_2529_6_59) k) ?_
            refine own_by (V := T58.setTop (mkF m 61 #[.val (.ref o0), .val (.int (0 : Int32)), .val (.int (3 : Int32)), .val (.int (-1 : Int32)), .val (.int (2 : Int32)), .val (.int x2)] [(.int (0 : Int32)), (.ref o0)])) (fun t k => XS.iadd X58.here hx rfl (hb hby own_d_jdk_2529_6_60) rfl k) ?_
            refine own_by (V := T58.setTop (mkF m 63 #[.val (.ref o0), .val (.int (0 : Int32)), .val (.int (3 : Int32)), .val (.int (-1 : Int32)), .val (.int (2 : Int32)), .val (.int x2)] [(.int x2), (.int (0 : Int32)), (.ref o0)])) (fun t k => XS.iload X58.here hx rfl (hb hby own_d_jdk_2529_6_61) rfl  k) ?_
            obtain ⟨cl60, Ar60, qa60, Sa60, Ma60, Ha60, Ua60⟩ := id V58
            obtain ⟨T61, h61, X61, e61, W61, st61⟩ := stI X58 hx hZ e58 Ar60 (j := (0 : Int32)) (inb_of Sa60 ⟨(by decide), (by decide)⟩) (g := (mkF m 63 #[.val (.ref o0), .val (.int (0 : Int32)), .val (.int (3 : Int32)), .val (.int (-1 : Int32)), .val (.int (2 : Int32)), .val (.int x2)] [(.int x2), (.int (0 : Int32)), (.ref o0)])) rfl rfl (hb hby own_d_jdk_2529_6_63)
            have N61 := Fr.snoc X61 N58 g0
            have K61 := K58.wr W61 (Or.inl (List.mem_of_getElem? (i := 0) rfl))
            have Zs61 : n0 ≤ h61.size := by rw [W61.size]; exact Zs58
            have V61 : Arv Z h61 o0 kb .int (3 : Int32) [(.int x2), (.int x0), (.int x1)] (.int (0 : Int32)) := Arv.set Ar60 qa60 Sa60 Ma60 Ha60 Ua60 rfl W61 0 (by decide) (by simp)
            refine own_by (V := T61.setTop (mkF m 64 #[.val (.ref o0), .val (.int (0 : Int32)), .val (.int (3 : Int32)), .val (.int (-1 : Int32)), .val (.int (2 : Int32)), .val (.int x2)] [])) st61 ?_
            refine own_by (V := T61.setTop (mkF m 3 #[.val (.ref o0), .val (.int (0 : Int32)), .val (.int (3 : Int32)), .val (.int (-1 : Int32)), .val (.int (2 : Int32)), .val (.int x2)] [])) (fun t k => XS.goto X61.here hx rfl (pc0 := 64) (pc' := 3) rfl (hb hby own_d_jdk_2529_6_64) (by decide) (by decide) k) ?_
            refine own_by (V := T61.setTop (mkF m 6 #[.val (.ref o0), .val (.int (0 : Int32)), .val (.int (3 : Int32)), .val (.int (-1 : Int32)), .val (.int (3 : Int32)), .val (.int x2)] [])) (fun t k => XS.iinc X61.here hx rfl (hb hby own_d_jdk_2529_6_3) rfl (l' := #[.val (.ref o0), .val (.int (0 : Int32)), .val (.int (3 : Int32)), .val (.int (-1 : Int32)), .val (.int (3 : Int32)), .val (.int x2)]) rfl k) ?_
            refine own_by (V := T61.setTop (mkF m 8 #[.val (.ref o0), .val (.int (0 : Int32)), .val (.int (3 : Int32)), .val (.int (-1 : Int32)), .val (.int (3 : Int32)), .val (.int x2)] [(.int (3 : Int32))])) (fun t k => XS.iload X61.here hx rfl (hb hby own_d_jdk_2529_6_6) rfl  k) ?_
            refine own_by (V := T61.setTop (mkF m 9 #[.val (.ref o0), .val (.int (0 : Int32)), .val (.int (3 : Int32)), .val (.int (-1 : Int32)), .val (.int (3 : Int32)), .val (.int x2)] [(.int (3 : Int32)), (.int (3 : Int32))])) (fun t k => XS.iloadN X61.here hx rfl (hb hby own_d_jdk_2529_6_8) rfl  k) ?_
            have hb9_62 : ¬ ((3 : Int32) < (3 : Int32)) := by decide
            refine own_by (V := T61.setTop (mkF m 67 #[.val (.ref o0), .val (.int (0 : Int32)), .val (.int (3 : Int32)), .val (.int (-1 : Int32)), .val (.int (3 : Int32)), .val (.int x2)] [])) (fun t k => XS.icmpYes X61.here hx rfl (pc0 := 9) (pc' := 67) rfl (hb hby own_d_jdk_2529_6_9) rfl (flt hb9_62).2.1 (by decide) (by decide) k) ?_
            refine own_ret0 X61 hx hlk e61 Bd.returns (hb hby own_d_jdk_2529_6_67) ?_ (by decide) (by decide)
            exact ⟨rfl, N61, K61, (by have q := own_s3_201 x0 x1 x2 (by (try rw [Int32.lt_iff_toInt_lt] at hb9_1); (try rw [Int32.lt_iff_toInt_lt] at hb27_4); (try rw [Int32.lt_iff_toInt_lt] at hb35_5); (try rw [Int32.lt_iff_toInt_lt] at hb43_7); (try rw [Int32.lt_iff_toInt_lt] at hb9_43); (try rw [Int32.lt_iff_toInt_lt] at hb27_46); (try rw [Int32.lt_iff_toInt_lt] at hb35_47); (try rw [Int32.lt_iff_toInt_lt] at hb43_49); (try rw [Int32.lt_iff_toInt_lt] at hb35_53); (try rw [Int32.lt_iff_toInt_lt] at hb43_55); (try rw [Int32.lt_iff_toInt_lt] at hb35_59); (try rw [Int32.lt_iff_toInt_lt] at hb9_62); rw [Int32.lt_iff_toInt_lt]; omega) (by (try rw [Int32.lt_iff_toInt_lt] at hb9_1); (try rw [Int32.lt_iff_toInt_lt] at hb27_4); (try rw [Int32.lt_iff_toInt_lt] at hb35_5); (try rw [Int32.lt_iff_toInt_lt] at hb43_7); (try rw [Int32.lt_iff_toInt_lt] at hb9_43); (try rw [Int32.lt_iff_toInt_lt] at hb27_46); (try rw [Int32.lt_iff_toInt_lt] at hb35_47); (try rw [Int32.lt_iff_toInt_lt] at hb43_49); (try rw [Int32.lt_iff_toInt_lt] at hb35_53); (try rw [Int32.lt_iff_toInt_lt] at hb43_55); (try rw [Int32.lt_iff_toInt_lt] at hb35_59); (try rw [Int32.lt_iff_toInt_lt] at hb9_62); rw [Int32.lt_iff_toInt_lt]; omega); rw [q.1, q.2.1, q.2.2]; exact V61)⟩
          · refine own_by (V := T52.setTop (mkF m 57 #[.val (.ref o0), .val (.int (0 : Int32)), .val (.int (3 : Int32)), .val (.int (0 : Int32)), .val (.int (2 : Int32)), .val (.int x2)] [])) (fun t k => XS.icmpYes X52.here hx rfl (pc0 := 43) (pc' := 57) rfl (hb hby own_d_jdk_2529_6_43) rfl (flt hb43_55).2.1 (by decide) (by decide) k) ?_
            refine own_by (V := T52.setTop (mkF m 58 #[.val (.ref o0), .val (.int (0 : Int32)), .val (.int (3 : Int32)), .val (.int (0 : Int32)), .val (.int (2 : Int32)), .val (.int x2)] [(.ref o0)])) (fun t k => XS.aloadN X52.here hx rfl (hb hby own_d_jdk_2529_6_57) rfl rfl k) ?_
            refine own_by (V := T52.setTop (mkF m 59 #[.val (.ref o0), .val (.int (0 : Int32)), .val (.int (3 : Int32)), .val (.int (0 : Int32)), .val (.int (2 : Int32)), .val (.int x2)] [(.int (0 : Int32)), (.ref o0)])) (fun t k => XS.iloadN X52.here hx rfl (hb hby own_d_jdk_2529_6_58) rfl  k) ?_
            refine own_by (V := T52.setTop (mkF m 60 #[.val (.ref o0), .val (.int (0 : Int32)), .val (.int (3 : Int32)), .val (.int (0 : Int32)), .val (.int (2 : Int32)), .val (.int x2)] [(.int (1 : Int32)), (.int (0 : Int32)), (.ref o0)])) (fun t k => XS.iconst X52.here hx rfl (hb hby own_d_jdk_2529_6_59) k) ?_
            refine own_by (V := T52.setTop (mkF m 61 #[.val (.ref o0), .val (.int (0 : Int32)), .val (.int (3 : Int32)), .val (.int (0 : Int32)), .val (.int (2 : Int32)), .val (.int x2)] [(.int (1 : Int32)), (.ref o0)])) (fun t k => XS.iadd X52.here hx rfl (hb hby own_d_jdk_2529_6_60) rfl k) ?_
            refine own_by (V := T52.setTop (mkF m 63 #[.val (.ref o0), .val (.int (0 : Int32)), .val (.int (3 : Int32)), .val (.int (0 : Int32)), .val (.int (2 : Int32)), .val (.int x2)] [(.int x2), (.int (1 : Int32)), (.ref o0)])) (fun t k => XS.iload X52.here hx rfl (hb hby own_d_jdk_2529_6_61) rfl  k) ?_
            obtain ⟨cl63, Ar63, qa63, Sa63, Ma63, Ha63, Ua63⟩ := id V52
            obtain ⟨T64, h64, X64, e64, W64, st64⟩ := stI X52 hx hZ e52 Ar63 (j := (1 : Int32)) (inb_of Sa63 ⟨(by decide), (by decide)⟩) (g := (mkF m 63 #[.val (.ref o0), .val (.int (0 : Int32)), .val (.int (3 : Int32)), .val (.int (0 : Int32)), .val (.int (2 : Int32)), .val (.int x2)] [(.int x2), (.int (1 : Int32)), (.ref o0)])) rfl rfl (hb hby own_d_jdk_2529_6_63)
            have N64 := Fr.snoc X64 N52 g0
            have K64 := K52.wr W64 (Or.inl (List.mem_of_getElem? (i := 0) rfl))
            have Zs64 : n0 ≤ h64.size := by rw [W64.size]; exact Zs52
            have V64 : Arv Z h64 o0 kb .int (3 : Int32) [(.int x0), (.int x2), (.int x1)] (.int (0 : Int32)) := Arv.set Ar63 qa63 Sa63 Ma63 Ha63 Ua63 rfl W64 1 (by decide) (by simp)
            refine own_by (V := T64.setTop (mkF m 64 #[.val (.ref o0), .val (.int (0 : Int32)), .val (.int (3 : Int32)), .val (.int (0 : Int32)), .val (.int (2 : Int32)), .val (.int x2)] [])) st64 ?_
            refine own_by (V := T64.setTop (mkF m 3 #[.val (.ref o0), .val (.int (0 : Int32)), .val (.int (3 : Int32)), .val (.int (0 : Int32)), .val (.int (2 : Int32)), .val (.int x2)] [])) (fun t k => XS.goto X64.here hx rfl (pc0 := 64) (pc' := 3) rfl (hb hby own_d_jdk_2529_6_64) (by decide) (by decide) k) ?_
            refine own_by (V := T64.setTop (mkF m 6 #[.val (.ref o0), .val (.int (0 : Int32)), .val (.int (3 : Int32)), .val (.int (0 : Int32)), .val (.int (3 : Int32)), .val (.int x2)] [])) (fun t k => XS.iinc X64.here hx rfl (hb hby own_d_jdk_2529_6_3) rfl (l' := #[.val (.ref o0), .val (.int (0 : Int32)), .val (.int (3 : Int32)), .val (.int (0 : Int32)), .val (.int (3 : Int32)), .val (.int x2)]) rfl k) ?_
            refine own_by (V := T64.setTop (mkF m 8 #[.val (.ref o0), .val (.int (0 : Int32)), .val (.int (3 : Int32)), .val (.int (0 : Int32)), .val (.int (3 : Int32)), .val (.int x2)] [(.int (3 : Int32))])) (fun t k => XS.iload X64.here hx rfl (hb hby own_d_jdk_2529_6_6) rfl  k) ?_
            refine own_by (V := T64.setTop (mkF m 9 #[.val (.ref o0), .val (.int (0 : Int32)), .val (.int (3 : Int32)), .val (.int (0 : Int32)), .val (.int (3 : Int32)), .val (.int x2)] [(.int (3 : Int32)), (.int (3 : Int32))])) (fun t k => XS.iloadN X64.here hx rfl (hb hby own_d_jdk_2529_6_8) rfl  k) ?_
            have hb9_65 : ¬ ((3 : Int32) < (3 : Int32)) := by decide
            refine own_by (V := T64.setTop (mkF m 67 #[.val (.ref o0), .val (.int (0 : Int32)), .val (.int (3 : Int32)), .val (.int (0 : Int32)), .val (.int (3 : Int32)), .val (.int x2)] [])) (fun t k => XS.icmpYes X64.here hx rfl (pc0 := 9) (pc' := 67) rfl (hb hby own_d_jdk_2529_6_9) rfl (flt hb9_65).2.1 (by decide) (by decide) k) ?_
            refine own_ret0 X64 hx hlk e64 Bd.returns (hb hby own_d_jdk_2529_6_67) ?_ (by decide) (by decide)
            exact ⟨rfl, N64, K64, (by have q := own_s3_021 x0 x1 x2 (by (try rw [Int32.lt_iff_toInt_lt] at hb9_1); (try rw [Int32.lt_iff_toInt_lt] at hb27_4); (try rw [Int32.lt_iff_toInt_lt] at hb35_5); (try rw [Int32.lt_iff_toInt_lt] at hb43_7); (try rw [Int32.lt_iff_toInt_lt] at hb9_43); (try rw [Int32.lt_iff_toInt_lt] at hb27_46); (try rw [Int32.lt_iff_toInt_lt] at hb35_47); (try rw [Int32.lt_iff_toInt_lt] at hb43_49); (try rw [Int32.lt_iff_toInt_lt] at hb35_53); (try rw [Int32.lt_iff_toInt_lt] at hb43_55); (try rw [Int32.lt_iff_toInt_lt] at hb9_65); rw [Int32.lt_iff_toInt_lt]; omega) (by (try rw [Int32.lt_iff_toInt_lt] at hb9_1); (try rw [Int32.lt_iff_toInt_lt] at hb27_4); (try rw [Int32.lt_iff_toInt_lt] at hb35_5); (try rw [Int32.lt_iff_toInt_lt] at hb43_7); (try rw [Int32.lt_iff_toInt_lt] at hb9_43); (try rw [Int32.lt_iff_toInt_lt] at hb27_46); (try rw [Int32.lt_iff_toInt_lt] at hb35_47); (try rw [Int32.lt_iff_toInt_lt] at hb43_49); (try rw [Int32.lt_iff_toInt_lt] at hb35_53); (try rw [Int32.lt_iff_toInt_lt] at hb43_55); (try rw [Int32.lt_iff_toInt_lt] at hb9_65); rw [Int32.lt_iff_toInt_lt]; omega); rw [q.1, q.2.1, q.2.2]; exact V64)⟩
        · refine own_by (V := T42.setTop (mkF m 57 #[.val (.ref o0), .val (.int (0 : Int32)), .val (.int (3 : Int32)), .val (.int (1 : Int32)), .val (.int (2 : Int32)), .val (.int x2)] [])) (fun t k => XS.icmpYes X42.here hx rfl (pc0 := 43) (pc' := 57) rfl (hb hby own_d_jdk_2529_6_43) rfl (flt hb43_49).2.1 (by decide) (by decide) k) ?_
          refine own_by (V := T42.setTop (mkF m 58 #[.val (.ref o0), .val (.int (0 : Int32)), .val (.int (3 : Int32)), .val (.int (1 : Int32)), .val (.int (2 : Int32)), .val (.int x2)] [(.ref o0)])) (fun t k => XS.aloadN X42.here hx rfl (hb hby own_d_jdk_2529_6_57) rfl rfl k) ?_
          refine own_by (V := T42.setTop (mkF m 59 #[.val (.ref o0), .val (.int (0 : Int32)), .val (.int (3 : Int32)), .val (.int (1 : Int32)), .val (.int (2 : Int32)), .val (.int x2)] [(.int (1 : Int32)), (.ref o0)])) (fun t k => XS.iloadN X42.here hx rfl (hb hby own_d_jdk_2529_6_58) rfl  k) ?_
          refine own_by (V := T42.setTop (mkF m 60 #[.val (.ref o0), .val (.int (0 : Int32)), .val (.int (3 : Int32)), .val (.int (1 : Int32)), .val (.int (2 : Int32)), .val (.int x2)] [(.int (1 : Int32)), (.int (1 : Int32)), (.ref o0)])) (fun t k => XS.iconst X42.here hx rfl (hb hby own_d_jdk_2529_6_59) k) ?_
          refine own_by (V := T42.setTop (mkF m 61 #[.val (.ref o0), .val (.int (0 : Int32)), .val (.int (3 : Int32)), .val (.int (1 : Int32)), .val (.int (2 : Int32)), .val (.int x2)] [(.int (2 : Int32)), (.ref o0)])) (fun t k => XS.iadd X42.here hx rfl (hb hby own_d_jdk_2529_6_60) rfl k) ?_
          refine own_by (V := T42.setTop (mkF m 63 #[.val (.ref o0), .val (.int (0 : Int32)), .val (.int (3 : Int32)), .val (.int (1 : Int32)), .val (.int (2 : Int32)), .val (.int x2)] [(.int x2), (.int (2 : Int32)), (.ref o0)])) (fun t k => XS.iload X42.here hx rfl (hb hby own_d_jdk_2529_6_61) rfl  k) ?_
          obtain ⟨cl66, Ar66, qa66, Sa66, Ma66, Ha66, Ua66⟩ := id V42
          obtain ⟨T67, h67, X67, e67, W67, st67⟩ := stI X42 hx hZ e42 Ar66 (j := (2 : Int32)) (inb_of Sa66 ⟨(by decide), (by decide)⟩) (g := (mkF m 63 #[.val (.ref o0), .val (.int (0 : Int32)), .val (.int (3 : Int32)), .val (.int (1 : Int32)), .val (.int (2 : Int32)), .val (.int x2)] [(.int x2), (.int (2 : Int32)), (.ref o0)])) rfl rfl (hb hby own_d_jdk_2529_6_63)
          have N67 := Fr.snoc X67 N42 g0
          have K67 := K42.wr W67 (Or.inl (List.mem_of_getElem? (i := 0) rfl))
          have Zs67 : n0 ≤ h67.size := by rw [W67.size]; exact Zs42
          have V67 : Arv Z h67 o0 kb .int (3 : Int32) [(.int x0), (.int x1), (.int x2)] (.int (0 : Int32)) := Arv.set Ar66 qa66 Sa66 Ma66 Ha66 Ua66 rfl W67 2 (by decide) (by simp)
          refine own_by (V := T67.setTop (mkF m 64 #[.val (.ref o0), .val (.int (0 : Int32)), .val (.int (3 : Int32)), .val (.int (1 : Int32)), .val (.int (2 : Int32)), .val (.int x2)] [])) st67 ?_
          refine own_by (V := T67.setTop (mkF m 3 #[.val (.ref o0), .val (.int (0 : Int32)), .val (.int (3 : Int32)), .val (.int (1 : Int32)), .val (.int (2 : Int32)), .val (.int x2)] [])) (fun t k => XS.goto X67.here hx rfl (pc0 := 64) (pc' := 3) rfl (hb hby own_d_jdk_2529_6_64) (by decide) (by decide) k) ?_
          refine own_by (V := T67.setTop (mkF m 6 #[.val (.ref o0), .val (.int (0 : Int32)), .val (.int (3 : Int32)), .val (.int (1 : Int32)), .val (.int (3 : Int32)), .val (.int x2)] [])) (fun t k => XS.iinc X67.here hx rfl (hb hby own_d_jdk_2529_6_3) rfl (l' := #[.val (.ref o0), .val (.int (0 : Int32)), .val (.int (3 : Int32)), .val (.int (1 : Int32)), .val (.int (3 : Int32)), .val (.int x2)]) rfl k) ?_
          refine own_by (V := T67.setTop (mkF m 8 #[.val (.ref o0), .val (.int (0 : Int32)), .val (.int (3 : Int32)), .val (.int (1 : Int32)), .val (.int (3 : Int32)), .val (.int x2)] [(.int (3 : Int32))])) (fun t k => XS.iload X67.here hx rfl (hb hby own_d_jdk_2529_6_6) rfl  k) ?_
          refine own_by (V := T67.setTop (mkF m 9 #[.val (.ref o0), .val (.int (0 : Int32)), .val (.int (3 : Int32)), .val (.int (1 : Int32)), .val (.int (3 : Int32)), .val (.int x2)] [(.int (3 : Int32)), (.int (3 : Int32))])) (fun t k => XS.iloadN X67.here hx rfl (hb hby own_d_jdk_2529_6_8) rfl  k) ?_
          have hb9_68 : ¬ ((3 : Int32) < (3 : Int32)) := by decide
          refine own_by (V := T67.setTop (mkF m 67 #[.val (.ref o0), .val (.int (0 : Int32)), .val (.int (3 : Int32)), .val (.int (1 : Int32)), .val (.int (3 : Int32)), .val (.int x2)] [])) (fun t k => XS.icmpYes X67.here hx rfl (pc0 := 9) (pc' := 67) rfl (hb hby own_d_jdk_2529_6_9) rfl (flt hb9_68).2.1 (by decide) (by decide) k) ?_
          refine own_ret0 X67 hx hlk e67 Bd.returns (hb hby own_d_jdk_2529_6_67) ?_ (by decide) (by decide)
          exact ⟨rfl, N67, K67, (by have q := own_s3_012 x0 x1 x2 (by (try rw [Int32.lt_iff_toInt_lt] at hb9_1); (try rw [Int32.lt_iff_toInt_lt] at hb27_4); (try rw [Int32.lt_iff_toInt_lt] at hb35_5); (try rw [Int32.lt_iff_toInt_lt] at hb43_7); (try rw [Int32.lt_iff_toInt_lt] at hb9_43); (try rw [Int32.lt_iff_toInt_lt] at hb27_46); (try rw [Int32.lt_iff_toInt_lt] at hb35_47); (try rw [Int32.lt_iff_toInt_lt] at hb43_49); (try rw [Int32.lt_iff_toInt_lt] at hb9_68); rw [Int32.lt_iff_toInt_lt]; omega) (by (try rw [Int32.lt_iff_toInt_lt] at hb9_1); (try rw [Int32.lt_iff_toInt_lt] at hb27_4); (try rw [Int32.lt_iff_toInt_lt] at hb35_5); (try rw [Int32.lt_iff_toInt_lt] at hb43_7); (try rw [Int32.lt_iff_toInt_lt] at hb9_43); (try rw [Int32.lt_iff_toInt_lt] at hb27_46); (try rw [Int32.lt_iff_toInt_lt] at hb35_47); (try rw [Int32.lt_iff_toInt_lt] at hb43_49); (try rw [Int32.lt_iff_toInt_lt] at hb9_68); rw [Int32.lt_iff_toInt_lt]; omega); rw [q.1, q.2.1, q.2.2]; exact V67)⟩
      · refine own_by (V := T42.setTop (mkF m 64 #[.val (.ref o0), .val (.int (0 : Int32)), .val (.int (3 : Int32)), .val (.int (2 : Int32)), .val (.int (2 : Int32)), .val (.int x2)] [])) (fun t k => XS.icmpYes X42.here hx rfl (pc0 := 27) (pc' := 64) rfl (hb hby own_d_jdk_2529_6_27) rfl (flt hb27_46).2.1 (by decide) (by decide) k) ?_
        refine own_by (V := T42.setTop (mkF m 3 #[.val (.ref o0), .val (.int (0 : Int32)), .val (.int (3 : Int32)), .val (.int (2 : Int32)), .val (.int (2 : Int32)), .val (.int x2)] [])) (fun t k => XS.goto X42.here hx rfl (pc0 := 64) (pc' := 3) rfl (hb hby own_d_jdk_2529_6_64) (by decide) (by decide) k) ?_
        refine own_by (V := T42.setTop (mkF m 6 #[.val (.ref o0), .val (.int (0 : Int32)), .val (.int (3 : Int32)), .val (.int (2 : Int32)), .val (.int (3 : Int32)), .val (.int x2)] [])) (fun t k => XS.iinc X42.here hx rfl (hb hby own_d_jdk_2529_6_3) rfl (l' := #[.val (.ref o0), .val (.int (0 : Int32)), .val (.int (3 : Int32)), .val (.int (2 : Int32)), .val (.int (3 : Int32)), .val (.int x2)]) rfl k) ?_
        refine own_by (V := T42.setTop (mkF m 8 #[.val (.ref o0), .val (.int (0 : Int32)), .val (.int (3 : Int32)), .val (.int (2 : Int32)), .val (.int (3 : Int32)), .val (.int x2)] [(.int (3 : Int32))])) (fun t k => XS.iload X42.here hx rfl (hb hby own_d_jdk_2529_6_6) rfl  k) ?_
        refine own_by (V := T42.setTop (mkF m 9 #[.val (.ref o0), .val (.int (0 : Int32)), .val (.int (3 : Int32)), .val (.int (2 : Int32)), .val (.int (3 : Int32)), .val (.int x2)] [(.int (3 : Int32)), (.int (3 : Int32))])) (fun t k => XS.iloadN X42.here hx rfl (hb hby own_d_jdk_2529_6_8) rfl  k) ?_
        have hb9_69 : ¬ ((3 : Int32) < (3 : Int32)) := by decide
        refine own_by (V := T42.setTop (mkF m 67 #[.val (.ref o0), .val (.int (0 : Int32)), .val (.int (3 : Int32)), .val (.int (2 : Int32)), .val (.int (3 : Int32)), .val (.int x2)] [])) (fun t k => XS.icmpYes X42.here hx rfl (pc0 := 9) (pc' := 67) rfl (hb hby own_d_jdk_2529_6_9) rfl (flt hb9_69).2.1 (by decide) (by decide) k) ?_
        refine own_ret0 X42 hx hlk e42 Bd.returns (hb hby own_d_jdk_2529_6_67) ?_ (by decide) (by decide)
        exact ⟨rfl, N42, K42, (by have q := own_s3_012 x0 x1 x2 (by (try rw [Int32.lt_iff_toInt_lt] at hb9_1); (try rw [Int32.lt_iff_toInt_lt] at hb27_4); (try rw [Int32.lt_iff_toInt_lt] at hb35_5); (try rw [Int32.lt_iff_toInt_lt] at hb43_7); (try rw [Int32.lt_iff_toInt_lt] at hb9_43); (try rw [Int32.lt_iff_toInt_lt] at hb27_46); (try rw [Int32.lt_iff_toInt_lt] at hb9_69); rw [Int32.lt_iff_toInt_lt]; omega) (by (try rw [Int32.lt_iff_toInt_lt] at hb9_1); (try rw [Int32.lt_iff_toInt_lt] at hb27_4); (try rw [Int32.lt_iff_toInt_lt] at hb35_5); (try rw [Int32.lt_iff_toInt_lt] at hb43_7); (try rw [Int32.lt_iff_toInt_lt] at hb9_43); (try rw [Int32.lt_iff_toInt_lt] at hb27_46); (try rw [Int32.lt_iff_toInt_lt] at hb9_69); rw [Int32.lt_iff_toInt_lt]; omega); rw [q.1, q.2.1, q.2.2]; exact V42)⟩
  · refine own_by (V := s₁.setTop (mkF m 64 #[.val (.ref o0), .val (.int (0 : Int32)), .val (.int (3 : Int32)), .val (.int (1 : Int32)), .val (.int (1 : Int32)), .val (.int x1)] [])) (fun t k => XS.icmpYes X0.here hx rfl (pc0 := 27) (pc' := 64) rfl (hb hby own_d_jdk_2529_6_27) rfl (flt hb27_4).2.1 (by decide) (by decide) k) ?_
    refine own_by (V := s₁.setTop (mkF m 3 #[.val (.ref o0), .val (.int (0 : Int32)), .val (.int (3 : Int32)), .val (.int (1 : Int32)), .val (.int (1 : Int32)), .val (.int x1)] [])) (fun t k => XS.goto X0.here hx rfl (pc0 := 64) (pc' := 3) rfl (hb hby own_d_jdk_2529_6_64) (by decide) (by decide) k) ?_
    refine own_by (V := s₁.setTop (mkF m 6 #[.val (.ref o0), .val (.int (0 : Int32)), .val (.int (3 : Int32)), .val (.int (1 : Int32)), .val (.int (2 : Int32)), .val (.int x1)] [])) (fun t k => XS.iinc X0.here hx rfl (hb hby own_d_jdk_2529_6_3) rfl (l' := #[.val (.ref o0), .val (.int (0 : Int32)), .val (.int (3 : Int32)), .val (.int (1 : Int32)), .val (.int (2 : Int32)), .val (.int x1)]) rfl k) ?_
    refine own_by (V := s₁.setTop (mkF m 8 #[.val (.ref o0), .val (.int (0 : Int32)), .val (.int (3 : Int32)), .val (.int (1 : Int32)), .val (.int (2 : Int32)), .val (.int x1)] [(.int (2 : Int32))])) (fun t k => XS.iload X0.here hx rfl (hb hby own_d_jdk_2529_6_6) rfl  k) ?_
    refine own_by (V := s₁.setTop (mkF m 9 #[.val (.ref o0), .val (.int (0 : Int32)), .val (.int (3 : Int32)), .val (.int (1 : Int32)), .val (.int (2 : Int32)), .val (.int x1)] [(.int (3 : Int32)), (.int (2 : Int32))])) (fun t k => XS.iloadN X0.here hx rfl (hb hby own_d_jdk_2529_6_8) rfl  k) ?_
    have hb9_70 : ((2 : Int32) < (3 : Int32)) := by decide
    refine own_by (V := s₁.setTop (mkF m 12 #[.val (.ref o0), .val (.int (0 : Int32)), .val (.int (3 : Int32)), .val (.int (1 : Int32)), .val (.int (2 : Int32)), .val (.int x1)] [])) (fun t k => XS.icmpNo X0.here hx rfl (hb hby own_d_jdk_2529_6_9) rfl (tlt hb9_70).2.1 k) ?_
    refine own_by (V := s₁.setTop (mkF m 13 #[.val (.ref o0), .val (.int (0 : Int32)), .val (.int (3 : Int32)), .val (.int (1 : Int32)), .val (.int (2 : Int32)), .val (.int x1)] [(.ref o0)])) (fun t k => XS.aloadN X0.here hx rfl (hb hby own_d_jdk_2529_6_12) rfl rfl k) ?_
    refine own_by (V := s₁.setTop (mkF m 15 #[.val (.ref o0), .val (.int (0 : Int32)), .val (.int (3 : Int32)), .val (.int (1 : Int32)), .val (.int (2 : Int32)), .val (.int x1)] [(.int (2 : Int32)), (.ref o0)])) (fun t k => XS.iload X0.here hx rfl (hb hby own_d_jdk_2529_6_13) rfl  k) ?_
    refine own_by (V := s₁.setTop (mkF m 16 #[.val (.ref o0), .val (.int (0 : Int32)), .val (.int (3 : Int32)), .val (.int (1 : Int32)), .val (.int (2 : Int32)), .val (.int x1)] [(.int (2 : Int32)), (.int (2 : Int32)), (.ref o0)])) (fun t k => XS.dup X0.here hx rfl (hb hby own_d_jdk_2529_6_15) rfl rfl k) ?_
    refine own_by (V := s₁.setTop (mkF m 17 #[.val (.ref o0), .val (.int (0 : Int32)), .val (.int (3 : Int32)), .val (.int (2 : Int32)), .val (.int (2 : Int32)), .val (.int x1)] [(.int (2 : Int32)), (.ref o0)])) (fun t k => XS.istoreN X0.here hx rfl (hb hby own_d_jdk_2529_6_16) rfl (l' := #[.val (.ref o0), .val (.int (0 : Int32)), .val (.int (3 : Int32)), .val (.int (2 : Int32)), .val (.int (2 : Int32)), .val (.int x1)]) rfl k) ?_
    obtain ⟨cl71, Ar71, qa71, Sa71, Ma71, Ha71, Ua71⟩ := id A0
    have hi71 := inb_of Sa71 (j := (2 : Int32)) ⟨(by decide), (by decide)⟩
    refine own_by (V := s₁.setTop (mkF m 18 #[.val (.ref o0), .val (.int (0 : Int32)), .val (.int (3 : Int32)), .val (.int (2 : Int32)), .val (.int (2 : Int32)), .val (.int x1)] [(.int x2)])) (X0.iaload hx (j := (2 : Int32)) (v := (.int x2)) (by rw [e0]; exact Ar71.1) (State.isArrayOf_alike hZ.alike Ar71.2.1) Ar71.2.2 hi71 (Has.at Ha71 hi71 rfl) (g := (mkF m 17 #[.val (.ref o0), .val (.int (0 : Int32)), .val (.int (3 : Int32)), .val (.int (2 : Int32)), .val (.int (2 : Int32)), .val (.int x1)] [(.int (2 : Int32)), (.ref o0)])) rfl rfl (hb hby own_d_jdk_2529_6_17)) ?_
    refine own_by (V := s₁.setTop (mkF m 20 #[.val (.ref o0), .val (.int (0 : Int32)), .val (.int (3 : Int32)), .val (.int (2 : Int32)), .val (.int (2 : Int32)), .val (.int x2)] [])) (fun t k => XS.istore X0.here hx rfl (hb hby own_d_jdk_2529_6_18) rfl (l' := #[.val (.ref o0), .val (.int (0 : Int32)), .val (.int (3 : Int32)), .val (.int (2 : Int32)), .val (.int (2 : Int32)), .val (.int x2)]) rfl k) ?_
    refine own_by (V := s₁.setTop (mkF m 22 #[.val (.ref o0), .val (.int (0 : Int32)), .val (.int (3 : Int32)), .val (.int (2 : Int32)), .val (.int (2 : Int32)), .val (.int x2)] [(.int x2)])) (fun t k => XS.iload X0.here hx rfl (hb hby own_d_jdk_2529_6_20) rfl  k) ?_
    refine own_by (V := s₁.setTop (mkF m 23 #[.val (.ref o0), .val (.int (0 : Int32)), .val (.int (3 : Int32)), .val (.int (2 : Int32)), .val (.int (2 : Int32)), .val (.int x2)] [(.ref o0), (.int x2)])) (fun t k => XS.aloadN X0.here hx rfl (hb hby own_d_jdk_2529_6_22) rfl rfl k) ?_
    refine own_by (V := s₁.setTop (mkF m 24 #[.val (.ref o0), .val (.int (0 : Int32)), .val (.int (3 : Int32)), .val (.int (2 : Int32)), .val (.int (2 : Int32)), .val (.int x2)] [(.int (2 : Int32)), (.ref o0), (.int x2)])) (fun t k => XS.iloadN X0.here hx rfl (hb hby own_d_jdk_2529_6_23) rfl  k) ?_
    refine own_by (V := s₁.setTop (mkF m 25 #[.val (.ref o0), .val (.int (0 : Int32)), .val (.int (3 : Int32)), .val (.int (2 : Int32)), .val (.int (2 : Int32)), .val (.int x2)] [(.int (1 : Int32)), (.int (2 : Int32)), (.ref o0), (.int x2)])) (fun t k => XS.iconst X0.here hx rfl (hb hby own_d_jdk_2529_6_24) k) ?_
    refine own_by (V := s₁.setTop (mkF m 26 #[.val (.ref o0), .val (.int (0 : Int32)), .val (.int (3 : Int32)), .val (.int (2 : Int32)), .val (.int (2 : Int32)), .val (.int x2)] [(.int (1 : Int32)), (.ref o0), (.int x2)])) (fun t k => XS.isub X0.here hx rfl (hb hby own_d_jdk_2529_6_25) rfl k) ?_
    obtain ⟨cl72, Ar72, qa72, Sa72, Ma72, Ha72, Ua72⟩ := id A0
    have hi72 := inb_of Sa72 (j := (1 : Int32)) ⟨(by decide), (by decide)⟩
    refine own_by (V := s₁.setTop (mkF m 27 #[.val (.ref o0), .val (.int (0 : Int32)), .val (.int (3 : Int32)), .val (.int (2 : Int32)), .val (.int (2 : Int32)), .val (.int x2)] [(.int x1), (.int x2)])) (X0.iaload hx (j := (1 : Int32)) (v := (.int x1)) (by rw [e0]; exact Ar72.1) (State.isArrayOf_alike hZ.alike Ar72.2.1) Ar72.2.2 hi72 (Has.at Ha72 hi72 rfl) (g := (mkF m 26 #[.val (.ref o0), .val (.int (0 : Int32)), .val (.int (3 : Int32)), .val (.int (2 : Int32)), .val (.int (2 : Int32)), .val (.int x2)] [(.int (1 : Int32)), (.ref o0), (.int x2)])) rfl rfl (hb hby own_d_jdk_2529_6_26)) ?_
    by_cases hb27_73 : x2 < x1
    · refine own_by (V := s₁.setTop (mkF m 30 #[.val (.ref o0), .val (.int (0 : Int32)), .val (.int (3 : Int32)), .val (.int (2 : Int32)), .val (.int (2 : Int32)), .val (.int x2)] [])) (fun t k => XS.icmpNo X0.here hx rfl (hb hby own_d_jdk_2529_6_27) rfl (tlt hb27_73).2.1 k) ?_
      refine own_by (V := s₁.setTop (mkF m 33 #[.val (.ref o0), .val (.int (0 : Int32)), .val (.int (3 : Int32)), .val (.int (1 : Int32)), .val (.int (2 : Int32)), .val (.int x2)] [])) (fun t k => XS.iinc X0.here hx rfl (hb hby own_d_jdk_2529_6_30) rfl (l' := #[.val (.ref o0), .val (.int (0 : Int32)), .val (.int (3 : Int32)), .val (.int (1 : Int32)), .val (.int (2 : Int32)), .val (.int x2)]) rfl k) ?_
      refine own_by (V := s₁.setTop (mkF m 34 #[.val (.ref o0), .val (.int (0 : Int32)), .val (.int (3 : Int32)), .val (.int (1 : Int32)), .val (.int (2 : Int32)), .val (.int x2)] [(.int (1 : Int32))])) (fun t k => XS.iloadN X0.here hx rfl (hb hby own_d_jdk_2529_6_33) rfl  k) ?_
      refine own_by (V := s₁.setTop (mkF m 35 #[.val (.ref o0), .val (.int (0 : Int32)), .val (.int (3 : Int32)), .val (.int (1 : Int32)), .val (.int (2 : Int32)), .val (.int x2)] [(.int (0 : Int32)), (.int (1 : Int32))])) (fun t k => XS.iloadN X0.here hx rfl (hb hby own_d_jdk_2529_6_34) rfl  k) ?_
      have hb35_74 : ¬ ((1 : Int32) < (0 : Int32)) := by decide
      refine own_by (V := s₁.setTop (mkF m 38 #[.val (.ref o0), .val (.int (0 : Int32)), .val (.int (3 : Int32)), .val (.int (1 : Int32)), .val (.int (2 : Int32)), .val (.int x2)] [])) (fun t k => XS.icmpNo X0.here hx rfl (hb hby own_d_jdk_2529_6_35) rfl (flt hb35_74).1 k) ?_
      refine own_by (V := s₁.setTop (mkF m 40 #[.val (.ref o0), .val (.int (0 : Int32)), .val (.int (3 : Int32)), .val (.int (1 : Int32)), .val (.int (2 : Int32)), .val (.int x2)] [(.int x2)])) (fun t k => XS.iload X0.here hx rfl (hb hby own_d_jdk_2529_6_38) rfl  k) ?_
      refine own_by (V := s₁.setTop (mkF m 41 #[.val (.ref o0), .val (.int (0 : Int32)), .val (.int (3 : Int32)), .val (.int (1 : Int32)), .val (.int (2 : Int32)), .val (.int x2)] [(.ref o0), (.int x2)])) (fun t k => XS.aloadN X0.here hx rfl (hb hby own_d_jdk_2529_6_40) rfl rfl k) ?_
      refine own_by (V := s₁.setTop (mkF m 42 #[.val (.ref o0), .val (.int (0 : Int32)), .val (.int (3 : Int32)), .val (.int (1 : Int32)), .val (.int (2 : Int32)), .val (.int x2)] [(.int (1 : Int32)), (.ref o0), (.int x2)])) (fun t k => XS.iloadN X0.here hx rfl (hb hby own_d_jdk_2529_6_41) rfl  k) ?_
      obtain ⟨cl75, Ar75, qa75, Sa75, Ma75, Ha75, Ua75⟩ := id A0
      have hi75 := inb_of Sa75 (j := (1 : Int32)) ⟨(by decide), (by decide)⟩
      refine own_by (V := s₁.setTop (mkF m 43 #[.val (.ref o0), .val (.int (0 : Int32)), .val (.int (3 : Int32)), .val (.int (1 : Int32)), .val (.int (2 : Int32)), .val (.int x2)] [(.int x1), (.int x2)])) (X0.iaload hx (j := (1 : Int32)) (v := (.int x1)) (by rw [e0]; exact Ar75.1) (State.isArrayOf_alike hZ.alike Ar75.2.1) Ar75.2.2 hi75 (Has.at Ha75 hi75 rfl) (g := (mkF m 42 #[.val (.ref o0), .val (.int (0 : Int32)), .val (.int (3 : Int32)), .val (.int (1 : Int32)), .val (.int (2 : Int32)), .val (.int x2)] [(.int (1 : Int32)), (.ref o0), (.int x2)])) rfl rfl (hb hby own_d_jdk_2529_6_42)) ?_
      by_cases hb43_76 : x2 < x1
      · refine own_by (V := s₁.setTop (mkF m 46 #[.val (.ref o0), .val (.int (0 : Int32)), .val (.int (3 : Int32)), .val (.int (1 : Int32)), .val (.int (2 : Int32)), .val (.int x2)] [])) (fun t k => XS.icmpNo X0.here hx rfl (hb hby own_d_jdk_2529_6_43) rfl (tlt hb43_76).2.1 k) ?_
        refine own_by (V := s₁.setTop (mkF m 47 #[.val (.ref o0), .val (.int (0 : Int32)), .val (.int (3 : Int32)), .val (.int (1 : Int32)), .val (.int (2 : Int32)), .val (.int x2)] [(.ref o0)])) (fun t k => XS.aloadN X0.here hx rfl (hb hby own_d_jdk_2529_6_46) rfl rfl k) ?_
        refine own_by (V := s₁.setTop (mkF m 48 #[.val (.ref o0), .val (.int (0 : Int32)), .val (.int (3 : Int32)), .val (.int (1 : Int32)), .val (.int (2 : Int32)), .val (.int x2)] [(.int (1 : Int32)), (.ref o0)])) (fun t k => XS.iloadN X0.here hx rfl (hb hby own_d_jdk_2529_6_47) rfl  k) ?_
        refine own_by (V := s₁.setTop (mkF m 49 #[.val (.ref o0), .val (.int (0 : Int32)), .val (.int (3 : Int32)), .val (.int (1 : Int32)), .val (.int (2 : Int32)), .val (.int x2)] [(.int (1 : Int32)), (.int (1 : Int32)), (.ref o0)])) (fun t k => XS.iconst X0.here hx rfl (hb hby own_d_jdk_2529_6_48) k) ?_
        refine own_by (V := s₁.setTop (mkF m 50 #[.val (.ref o0), .val (.int (0 : Int32)), .val (.int (3 : Int32)), .val (.int (1 : Int32)), .val (.int (2 : Int32)), .val (.int x2)] [(.int (2 : Int32)), (.ref o0)])) (fun t k => XS.iadd X0.here hx rfl (hb hby own_d_jdk_2529_6_49) rfl k) ?_
        refine own_by (V := s₁.setTop (mkF m 51 #[.val (.ref o0), .val (.int (0 : Int32)), .val (.int (3 : Int32)), .val (.int (1 : Int32)), .val (.int (2 : Int32)), .val (.int x2)] [(.ref o0), (.int (2 : Int32)), (.ref o0)])) (fun t k => XS.aloadN X0.here hx rfl (hb hby own_d_jdk_2529_6_50) rfl rfl k) ?_
        refine own_by (V := s₁.setTop (mkF m 52 #[.val (.ref o0), .val (.int (0 : Int32)), .val (.int (3 : Int32)), .val (.int (1 : Int32)), .val (.int (2 : Int32)), .val (.int x2)] [(.int (1 : Int32)), (.ref o0), (.int (2 : Int32)), (.ref o0)])) (fun t k => XS.iloadN X0.here hx rfl (hb hby own_d_jdk_2529_6_51) rfl  k) ?_
        obtain ⟨cl77, Ar77, qa77, Sa77, Ma77, Ha77, Ua77⟩ := id A0
        have hi77 := inb_of Sa77 (j := (1 : Int32)) ⟨(by decide), (by decide)⟩
        refine own_by (V := s₁.setTop (mkF m 53 #[.val (.ref o0), .val (.int (0 : Int32)), .val (.int (3 : Int32)), .val (.int (1 : Int32)), .val (.int (2 : Int32)), .val (.int x2)] [(.int x1), (.int (2 : Int32)), (.ref o0)])) (X0.iaload hx (j := (1 : Int32)) (v := (.int x1)) (by rw [e0]; exact Ar77.1) (State.isArrayOf_alike hZ.alike Ar77.2.1) Ar77.2.2 hi77 (Has.at Ha77 hi77 rfl) (g := (mkF m 52 #[.val (.ref o0), .val (.int (0 : Int32)), .val (.int (3 : Int32)), .val (.int (1 : Int32)), .val (.int (2 : Int32)), .val (.int x2)] [(.int (1 : Int32)), (.ref o0), (.int (2 : Int32)), (.ref o0)])) rfl rfl (hb hby own_d_jdk_2529_6_52)) ?_
        obtain ⟨cl78, Ar78, qa78, Sa78, Ma78, Ha78, Ua78⟩ := id A0
        obtain ⟨T79, h79, X79, e79, W79, st79⟩ := stI X0 hx hZ e0 Ar78 (j := (2 : Int32)) (inb_of Sa78 ⟨(by decide), (by decide)⟩) (g := (mkF m 53 #[.val (.ref o0), .val (.int (0 : Int32)), .val (.int (3 : Int32)), .val (.int (1 : Int32)), .val (.int (2 : Int32)), .val (.int x2)] [(.int x1), (.int (2 : Int32)), (.ref o0)])) rfl rfl (hb hby own_d_jdk_2529_6_53)
        have N79 := Fr.snoc X79 N0 g0
        have K79 := (Keep.refl h0 [o0]).wr W79 (Or.inl (List.mem_of_getElem? (i := 0) rfl))
        have Zs79 : n0 ≤ h79.size := by rw [W79.size]; exact Z0
        have V79 : Arv Z h79 o0 kb .int (3 : Int32) [(.int x0), (.int x1), (.int x1)] (.int (0 : Int32)) := Arv.set Ar78 qa78 Sa78 Ma78 Ha78 Ua78 rfl W79 2 (by decide) (by simp)
        refine own_by (V := T79.setTop (mkF m 54 #[.val (.ref o0), .val (.int (0 : Int32)), .val (.int (3 : Int32)), .val (.int (1 : Int32)), .val (.int (2 : Int32)), .val (.int x2)] [])) st79 ?_
        refine own_by (V := T79.setTop (mkF m 30 #[.val (.ref o0), .val (.int (0 : Int32)), .val (.int (3 : Int32)), .val (.int (1 : Int32)), .val (.int (2 : Int32)), .val (.int x2)] [])) (fun t k => XS.goto X79.here hx rfl (pc0 := 54) (pc' := 30) rfl (hb hby own_d_jdk_2529_6_54) (by decide) (by decide) k) ?_
        refine own_by (V := T79.setTop (mkF m 33 #[.val (.ref o0), .val (.int (0 : Int32)), .val (.int (3 : Int32)), .val (.int (0 : Int32)), .val (.int (2 : Int32)), .val (.int x2)] [])) (fun t k => XS.iinc X79.here hx rfl (hb hby own_d_jdk_2529_6_30) rfl (l' := #[.val (.ref o0), .val (.int (0 : Int32)), .val (.int (3 : Int32)), .val (.int (0 : Int32)), .val (.int (2 : Int32)), .val (.int x2)]) rfl k) ?_
        refine own_by (V := T79.setTop (mkF m 34 #[.val (.ref o0), .val (.int (0 : Int32)), .val (.int (3 : Int32)), .val (.int (0 : Int32)), .val (.int (2 : Int32)), .val (.int x2)] [(.int (0 : Int32))])) (fun t k => XS.iloadN X79.here hx rfl (hb hby own_d_jdk_2529_6_33) rfl  k) ?_
        refine own_by (V := T79.setTop (mkF m 35 #[.val (.ref o0), .val (.int (0 : Int32)), .val (.int (3 : Int32)), .val (.int (0 : Int32)), .val (.int (2 : Int32)), .val (.int x2)] [(.int (0 : Int32)), (.int (0 : Int32))])) (fun t k => XS.iloadN X79.here hx rfl (hb hby own_d_jdk_2529_6_34) rfl  k) ?_
        have hb35_80 : ¬ ((0 : Int32) < (0 : Int32)) := by decide
        refine own_by (V := T79.setTop (mkF m 38 #[.val (.ref o0), .val (.int (0 : Int32)), .val (.int (3 : Int32)), .val (.int (0 : Int32)), .val (.int (2 : Int32)), .val (.int x2)] [])) (fun t k => XS.icmpNo X79.here hx rfl (hb hby own_d_jdk_2529_6_35) rfl (flt hb35_80).1 k) ?_
        refine own_by (V := T79.setTop (mkF m 40 #[.val (.ref o0), .val (.int (0 : Int32)), .val (.int (3 : Int32)), .val (.int (0 : Int32)), .val (.int (2 : Int32)), .val (.int x2)] [(.int x2)])) (fun t k => XS.iload X79.here hx rfl (hb hby own_d_jdk_2529_6_38) rfl  k) ?_
        refine own_by (V := T79.setTop (mkF m 41 #[.val (.ref o0), .val (.int (0 : Int32)), .val (.int (3 : Int32)), .val (.int (0 : Int32)), .val (.int (2 : Int32)), .val (.int x2)] [(.ref o0), (.int x2)])) (fun t k => XS.aloadN X79.here hx rfl (hb hby own_d_jdk_2529_6_40) rfl rfl k) ?_
        refine own_by (V := T79.setTop (mkF m 42 #[.val (.ref o0), .val (.int (0 : Int32)), .val (.int (3 : Int32)), .val (.int (0 : Int32)), .val (.int (2 : Int32)), .val (.int x2)] [(.int (0 : Int32)), (.ref o0), (.int x2)])) (fun t k => XS.iloadN X79.here hx rfl (hb hby own_d_jdk_2529_6_41) rfl  k) ?_
        obtain ⟨cl81, Ar81, qa81, Sa81, Ma81, Ha81, Ua81⟩ := id V79
        have hi81 := inb_of Sa81 (j := (0 : Int32)) ⟨(by decide), (by decide)⟩
        refine own_by (V := T79.setTop (mkF m 43 #[.val (.ref o0), .val (.int (0 : Int32)), .val (.int (3 : Int32)), .val (.int (0 : Int32)), .val (.int (2 : Int32)), .val (.int x2)] [(.int x0), (.int x2)])) (X79.iaload hx (j := (0 : Int32)) (v := (.int x0)) (by rw [e79]; exact Ar81.1) (State.isArrayOf_alike hZ.alike Ar81.2.1) Ar81.2.2 hi81 (Has.at Ha81 hi81 rfl) (g := (mkF m 42 #[.val (.ref o0), .val (.int (0 : Int32)), .val (.int (3 : Int32)), .val (.int (0 : Int32)), .val (.int (2 : Int32)), .val (.int x2)] [(.int (0 : Int32)), (.ref o0), (.int x2)])) rfl rfl (hb hby own_d_jdk_2529_6_42)) ?_
        by_cases hb43_82 : x2 < x0
        · refine own_by (V := T79.setTop (mkF m 46 #[.val (.ref o0), .val (.int (0 : Int32)), .val (.int (3 : Int32)), .val (.int (0 : Int32)), .val (.int (2 : Int32)), .val (.int x2)] [])) (fun t k => XS.icmpNo X79.here hx rfl (hb hby own_d_jdk_2529_6_43) rfl (tlt hb43_82).2.1 k) ?_
          refine own_by (V := T79.setTop (mkF m 47 #[.val (.ref o0), .val (.int (0 : Int32)), .val (.int (3 : Int32)), .val (.int (0 : Int32)), .val (.int (2 : Int32)), .val (.int x2)] [(.ref o0)])) (fun t k => XS.aloadN X79.here hx rfl (hb hby own_d_jdk_2529_6_46) rfl rfl k) ?_
          refine own_by (V := T79.setTop (mkF m 48 #[.val (.ref o0), .val (.int (0 : Int32)), .val (.int (3 : Int32)), .val (.int (0 : Int32)), .val (.int (2 : Int32)), .val (.int x2)] [(.int (0 : Int32)), (.ref o0)])) (fun t k => XS.iloadN X79.here hx rfl (hb hby own_d_jdk_2529_6_47) rfl  k) ?_
          refine own_by (V := T79.setTop (mkF m 49 #[.val (.ref o0), .val (.int (0 : Int32)), .val (.int (3 : Int32)), .val (.int (0 : Int32)), .val (.int (2 : Int32)), .val (.int x2)] [(.int (1 : Int32)), (.int (0 : Int32)), (.ref o0)])) (fun t k => XS.iconst X79.here hx rfl (hb hby own_d_jdk_2529_6_48) k) ?_
          refine own_by (V := T79.setTop (mkF m 50 #[.val (.ref o0), .val (.int (0 : Int32)), .val (.int (3 : Int32)), .val (.int (0 : Int32)), .val (.int (2 : Int32)), .val (.int x2)] [(.int (1 : Int32)), (.ref o0)])) (fun t k => XS.iadd X79.here hx rfl (hb hby own_d_jdk_2529_6_49) rfl k) ?_
          refine own_by (V := T79.setTop (mkF m 51 #[.val (.ref o0), .val (.int (0 : Int32)), .val (.int (3 : Int32)), .val (.int (0 : Int32)), .val (.int (2 : Int32)), .val (.int x2)] [(.ref o0), (.int (1 : Int32)), (.ref o0)])) (fun t k => XS.aloadN X79.here hx rfl (hb hby own_d_jdk_2529_6_50) rfl rfl k) ?_
          refine own_by (V := T79.setTop (mkF m 52 #[.val (.ref o0), .val (.int (0 : Int32)), .val (.int (3 : Int32)), .val (.int (0 : Int32)), .val (.int (2 : Int32)), .val (.int x2)] [(.int (0 : Int32)), (.ref o0), (.int (1 : Int32)), (.ref o0)])) (fun t k => XS.iloadN X79.here hx rfl (hb hby own_d_jdk_2529_6_51) rfl  k) ?_
          obtain ⟨cl83, Ar83, qa83, Sa83, Ma83, Ha83, Ua83⟩ := id V79
          have hi83 := inb_of Sa83 (j := (0 : Int32)) ⟨(by decide), (by decide)⟩
          refine own_by (V := T79.setTop (mkF m 53 #[.val (.ref o0), .val (.int (0 : Int32)), .val (.int (3 : Int32)), .val (.int (0 : Int32)), .val (.int (2 : Int32)), .val (.int x2)] [(.int x0), (.int (1 : Int32)), (.ref o0)])) (X79.iaload hx (j := (0 : Int32)) (v := (.int x0)) (by rw [e79]; exact Ar83.1) (State.isArrayOf_alike hZ.alike Ar83.2.1) Ar83.2.2 hi83 (Has.at Ha83 hi83 rfl) (g := (mkF m 52 #[.val (.ref o0), .val (.int (0 : Int32)), .val (.int (3 : Int32)), .val (.int (0 : Int32)), .val (.int (2 : Int32)), .val (.int x2)] [(.int (0 : Int32)), (.ref o0), (.int (1 : Int32)), (.ref o0)])) rfl rfl (hb hby own_d_jdk_2529_6_52)) ?_
          obtain ⟨cl84, Ar84, qa84, Sa84, Ma84, Ha84, Ua84⟩ := id V79
          obtain ⟨T85, h85, X85, e85, W85, st85⟩ := stI X79 hx hZ e79 Ar84 (j := (1 : Int32)) (inb_of Sa84 ⟨(by decide), (by decide)⟩) (g := (mkF m 53 #[.val (.ref o0), .val (.int (0 : Int32)), .val (.int (3 : Int32)), .val (.int (0 : Int32)), .val (.int (2 : Int32)), .val (.int x2)] [(.int x0), (.int (1 : Int32)), (.ref o0)])) rfl rfl (hb hby own_d_jdk_2529_6_53)
          have N85 := Fr.snoc X85 N79 g0
          have K85 := K79.wr W85 (Or.inl (List.mem_of_getElem? (i := 0) rfl))
          have Zs85 : n0 ≤ h85.size := by rw [W85.size]; exact Zs79
          have V85 : Arv Z h85 o0 kb .int (3 : Int32) [(.int x0), (.int x0), (.int x1)] (.int (0 : Int32)) := Arv.set Ar84 qa84 Sa84 Ma84 Ha84 Ua84 rfl W85 1 (by decide) (by simp)
          refine own_by (V := T85.setTop (mkF m 54 #[.val (.ref o0), .val (.int (0 : Int32)), .val (.int (3 : Int32)), .val (.int (0 : Int32)), .val (.int (2 : Int32)), .val (.int x2)] [])) st85 ?_
          refine own_by (V := T85.setTop (mkF m 30 #[.val (.ref o0), .val (.int (0 : Int32)), .val (.int (3 : Int32)), .val (.int (0 : Int32)), .val (.int (2 : Int32)), .val (.int x2)] [])) (fun t k => XS.goto X85.here hx rfl (pc0 := 54) (pc' := 30) rfl (hb hby own_d_jdk_2529_6_54) (by decide) (by decide) k) ?_
          refine own_by (V := T85.setTop (mkF m 33 #[.val (.ref o0), .val (.int (0 : Int32)), .val (.int (3 : Int32)), .val (.int (-1 : Int32)), .val (.int (2 : Int32)), .val (.int x2)] [])) (fun t k => XS.iinc X85.here hx rfl (hb hby own_d_jdk_2529_6_30) rfl (l' := #[.val (.ref o0), .val (.int (0 : Int32)), .val (.int (3 : Int32)), .val (.int (-1 : Int32)), .val (.int (2 : Int32)), .val (.int x2)]) rfl k) ?_
          refine own_by (V := T85.setTop (mkF m 34 #[.val (.ref o0), .val (.int (0 : Int32)), .val (.int (3 : Int32)), .val (.int (-1 : Int32)), .val (.int (2 : Int32)), .val (.int x2)] [(.int (-1 : Int32))])) (fun t k => XS.iloadN X85.here hx rfl (hb hby own_d_jdk_2529_6_33) rfl  k) ?_
          refine own_by (V := T85.setTop (mkF m 35 #[.val (.ref o0), .val (.int (0 : Int32)), .val (.int (3 : Int32)), .val (.int (-1 : Int32)), .val (.int (2 : Int32)), .val (.int x2)] [(.int (0 : Int32)), (.int (-1 : Int32))])) (fun t k => XS.iloadN X85.here hx rfl (hb hby own_d_jdk_2529_6_34) rfl  k) ?_
          have hb35_86 : ((-1 : Int32) < (0 : Int32)) := by decide
          refine own_by (V := T85.setTop (mkF m 57 #[.val (.ref o0), .val (.int (0 : Int32)), .val (.int (3 : Int32)), .val (.int (-1 : Int32)), .val (.int (2 : Int32)), .val (.int x2)] [])) (fun t k => XS.icmpYes X85.here hx rfl (pc0 := 35) (pc' := 57) rfl (hb hby own_d_jdk_2529_6_35) rfl (tlt hb35_86).1 (by decide) (by decide) k) ?_
          refine own_by (V := T85.setTop (mkF m 58 #[.val (.ref o0), .val (.int (0 : Int32)), .val (.int (3 : Int32)), .val (.int (-1 : Int32)), .val (.int (2 : Int32)), .val (.int x2)] [(.ref o0)])) (fun t k => XS.aloadN X85.here hx rfl (hb hby own_d_jdk_2529_6_57) rfl rfl k) ?_
          refine own_by (V := T85.setTop (mkF m 59 #[.val (.ref o0), .val (.int (0 : Int32)), .val (.int (3 : Int32)), .val (.int (-1 : Int32)), .val (.int (2 : Int32)), .val (.int x2)] [(.int (-1 : Int32)), (.ref o0)])) (fun t k => XS.iloadN X85.here hx rfl (hb hby own_d_jdk_2529_6_58) rfl  k) ?_
          refine own_by (V := T85.setTop (mkF m 60 #[.val (.ref o0), .val (.int (0 : Int32)), .val (.int (3 : Int32)), .val (.int (-1 : Int32)), .val (.int (2 : Int32)), .val (.int x2)] [(.int (1 : Int32)), (.int (-1 : Int32)), (.ref o0)])) (fun t k => XS.iconst X85.here hx rfl (hb hby own_d_jdk_2529_6_59) k) ?_
          refine own_by (V := T85.setTop (mkF m 61 #[.val (.ref o0), .val (.int (0 : Int32)), .val (.int (3 : Int32)), .val (.int (-1 : Int32)), .val (.int (2 : Int32)), .val (.int x2)] [(.int (0 : Int32)), (.ref o0)])) (fun t k => XS.iadd X85.here hx rfl (hb hby own_d_jdk_2529_6_60) rfl k) ?_
          refine own_by (V := T85.setTop (mkF m 63 #[.val (.ref o0), .val (.int (0 : Int32)), .val (.int (3 : Int32)), .val (.int (-1 : Int32)), .val (.int (2 : Int32)), .val (.int x2)] [(.int x2), (.int (0 : Int32)), (.ref o0)])) (fun t k => XS.iload X85.here hx rfl (hb hby own_d_jdk_2529_6_61) rfl  k) ?_
          obtain ⟨cl87, Ar87, qa87, Sa87, Ma87, Ha87, Ua87⟩ := id V85
          obtain ⟨T88, h88, X88, e88, W88, st88⟩ := stI X85 hx hZ e85 Ar87 (j := (0 : Int32)) (inb_of Sa87 ⟨(by decide), (by decide)⟩) (g := (mkF m 63 #[.val (.ref o0), .val (.int (0 : Int32)), .val (.int (3 : Int32)), .val (.int (-1 : Int32)), .val (.int (2 : Int32)), .val (.int x2)] [(.int x2), (.int (0 : Int32)), (.ref o0)])) rfl rfl (hb hby own_d_jdk_2529_6_63)
          have N88 := Fr.snoc X88 N85 g0
          have K88 := K85.wr W88 (Or.inl (List.mem_of_getElem? (i := 0) rfl))
          have Zs88 : n0 ≤ h88.size := by rw [W88.size]; exact Zs85
          have V88 : Arv Z h88 o0 kb .int (3 : Int32) [(.int x2), (.int x0), (.int x1)] (.int (0 : Int32)) := Arv.set Ar87 qa87 Sa87 Ma87 Ha87 Ua87 rfl W88 0 (by decide) (by simp)
          refine own_by (V := T88.setTop (mkF m 64 #[.val (.ref o0), .val (.int (0 : Int32)), .val (.int (3 : Int32)), .val (.int (-1 : Int32)), .val (.int (2 : Int32)), .val (.int x2)] [])) st88 ?_
          refine own_by (V := T88.setTop (mkF m 3 #[.val (.ref o0), .val (.int (0 : Int32)), .val (.int (3 : Int32)), .val (.int (-1 : Int32)), .val (.int (2 : Int32)), .val (.int x2)] [])) (fun t k => XS.goto X88.here hx rfl (pc0 := 64) (pc' := 3) rfl (hb hby own_d_jdk_2529_6_64) (by decide) (by decide) k) ?_
          refine own_by (V := T88.setTop (mkF m 6 #[.val (.ref o0), .val (.int (0 : Int32)), .val (.int (3 : Int32)), .val (.int (-1 : Int32)), .val (.int (3 : Int32)), .val (.int x2)] [])) (fun t k => XS.iinc X88.here hx rfl (hb hby own_d_jdk_2529_6_3) rfl (l' := #[.val (.ref o0), .val (.int (0 : Int32)), .val (.int (3 : Int32)), .val (.int (-1 : Int32)), .val (.int (3 : Int32)), .val (.int x2)]) rfl k) ?_
          refine own_by (V := T88.setTop (mkF m 8 #[.val (.ref o0), .val (.int (0 : Int32)), .val (.int (3 : Int32)), .val (.int (-1 : Int32)), .val (.int (3 : Int32)), .val (.int x2)] [(.int (3 : Int32))])) (fun t k => XS.iload X88.here hx rfl (hb hby own_d_jdk_2529_6_6) rfl  k) ?_
          refine own_by (V := T88.setTop (mkF m 9 #[.val (.ref o0), .val (.int (0 : Int32)), .val (.int (3 : Int32)), .val (.int (-1 : Int32)), .val (.int (3 : Int32)), .val (.int x2)] [(.int (3 : Int32)), (.int (3 : Int32))])) (fun t k => XS.iloadN X88.here hx rfl (hb hby own_d_jdk_2529_6_8) rfl  k) ?_
          have hb9_89 : ¬ ((3 : Int32) < (3 : Int32)) := by decide
          refine own_by (V := T88.setTop (mkF m 67 #[.val (.ref o0), .val (.int (0 : Int32)), .val (.int (3 : Int32)), .val (.int (-1 : Int32)), .val (.int (3 : Int32)), .val (.int x2)] [])) (fun t k => XS.icmpYes X88.here hx rfl (pc0 := 9) (pc' := 67) rfl (hb hby own_d_jdk_2529_6_9) rfl (flt hb9_89).2.1 (by decide) (by decide) k) ?_
          refine own_ret0 X88 hx hlk e88 Bd.returns (hb hby own_d_jdk_2529_6_67) ?_ (by decide) (by decide)
          exact ⟨rfl, N88, K88, (by have q := own_s3_201 x0 x1 x2 (by (try rw [Int32.lt_iff_toInt_lt] at hb9_1); (try rw [Int32.lt_iff_toInt_lt] at hb27_4); (try rw [Int32.lt_iff_toInt_lt] at hb9_70); (try rw [Int32.lt_iff_toInt_lt] at hb27_73); (try rw [Int32.lt_iff_toInt_lt] at hb35_74); (try rw [Int32.lt_iff_toInt_lt] at hb43_76); (try rw [Int32.lt_iff_toInt_lt] at hb35_80); (try rw [Int32.lt_iff_toInt_lt] at hb43_82); (try rw [Int32.lt_iff_toInt_lt] at hb35_86); (try rw [Int32.lt_iff_toInt_lt] at hb9_89); rw [Int32.lt_iff_toInt_lt]; omega) (by (try rw [Int32.lt_iff_toInt_lt] at hb9_1); (try rw [Int32.lt_iff_toInt_lt] at hb27_4); (try rw [Int32.lt_iff_toInt_lt] at hb9_70); (try rw [Int32.lt_iff_toInt_lt] at hb27_73); (try rw [Int32.lt_iff_toInt_lt] at hb35_74); (try rw [Int32.lt_iff_toInt_lt] at hb43_76); (try rw [Int32.lt_iff_toInt_lt] at hb35_80); (try rw [Int32.lt_iff_toInt_lt] at hb43_82); (try rw [Int32.lt_iff_toInt_lt] at hb35_86); (try rw [Int32.lt_iff_toInt_lt] at hb9_89); rw [Int32.lt_iff_toInt_lt]; omega); rw [q.1, q.2.1, q.2.2]; exact V88)⟩
        · refine own_by (V := T79.setTop (mkF m 57 #[.val (.ref o0), .val (.int (0 : Int32)), .val (.int (3 : Int32)), .val (.int (0 : Int32)), .val (.int (2 : Int32)), .val (.int x2)] [])) (fun t k => XS.icmpYes X79.here hx rfl (pc0 := 43) (pc' := 57) rfl (hb hby own_d_jdk_2529_6_43) rfl (flt hb43_82).2.1 (by decide) (by decide) k) ?_
          refine own_by (V := T79.setTop (mkF m 58 #[.val (.ref o0), .val (.int (0 : Int32)), .val (.int (3 : Int32)), .val (.int (0 : Int32)), .val (.int (2 : Int32)), .val (.int x2)] [(.ref o0)])) (fun t k => XS.aloadN X79.here hx rfl (hb hby own_d_jdk_2529_6_57) rfl rfl k) ?_
          refine own_by (V := T79.setTop (mkF m 59 #[.val (.ref o0), .val (.int (0 : Int32)), .val (.int (3 : Int32)), .val (.int (0 : Int32)), .val (.int (2 : Int32)), .val (.int x2)] [(.int (0 : Int32)), (.ref o0)])) (fun t k => XS.iloadN X79.here hx rfl (hb hby own_d_jdk_2529_6_58) rfl  k) ?_
          refine own_by (V := T79.setTop (mkF m 60 #[.val (.ref o0), .val (.int (0 : Int32)), .val (.int (3 : Int32)), .val (.int (0 : Int32)), .val (.int (2 : Int32)), .val (.int x2)] [(.int (1 : Int32)), (.int (0 : Int32)), (.ref o0)])) (fun t k => XS.iconst X79.here hx rfl (hb hby own_d_jdk_2529_6_59) k) ?_
          refine own_by (V := T79.setTop (mkF m 61 #[.val (.ref o0), .val (.int (0 : Int32)), .val (.int (3 : Int32)), .val (.int (0 : Int32)), .val (.int (2 : Int32)), .val (.int x2)] [(.int (1 : Int32)), (.ref o0)])) (fun t k => XS.iadd X79.here hx rfl (hb hby own_d_jdk_2529_6_60) rfl k) ?_
          refine own_by (V := T79.setTop (mkF m 63 #[.val (.ref o0), .val (.int (0 : Int32)), .val (.int (3 : Int32)), .val (.int (0 : Int32)), .val (.int (2 : Int32)), .val (.int x2)] [(.int x2), (.int (1 : Int32)), (.ref o0)])) (fun t k => XS.iload X79.here hx rfl (hb hby own_d_jdk_2529_6_61) rfl  k) ?_
          obtain ⟨cl90, Ar90, qa90, Sa90, Ma90, Ha90, Ua90⟩ := id V79
          obtain ⟨T91, h91, X91, e91, W91, st91⟩ := stI X79 hx hZ e79 Ar90 (j := (1 : Int32)) (inb_of Sa90 ⟨(by decide), (by decide)⟩) (g := (mkF m 63 #[.val (.ref o0), .val (.int (0 : Int32)), .val (.int (3 : Int32)), .val (.int (0 : Int32)), .val (.int (2 : Int32)), .val (.int x2)] [(.int x2), (.int (1 : Int32)), (.ref o0)])) rfl rfl (hb hby own_d_jdk_2529_6_63)
          have N91 := Fr.snoc X91 N79 g0
          have K91 := K79.wr W91 (Or.inl (List.mem_of_getElem? (i := 0) rfl))
          have Zs91 : n0 ≤ h91.size := by rw [W91.size]; exact Zs79
          have V91 : Arv Z h91 o0 kb .int (3 : Int32) [(.int x0), (.int x2), (.int x1)] (.int (0 : Int32)) := Arv.set Ar90 qa90 Sa90 Ma90 Ha90 Ua90 rfl W91 1 (by decide) (by simp)
          refine own_by (V := T91.setTop (mkF m 64 #[.val (.ref o0), .val (.int (0 : Int32)), .val (.int (3 : Int32)), .val (.int (0 : Int32)), .val (.int (2 : Int32)), .val (.int x2)] [])) st91 ?_
          refine own_by (V := T91.setTop (mkF m 3 #[.val (.ref o0), .val (.int (0 : Int32)), .val (.int (3 : Int32)), .val (.int (0 : Int32)), .val (.int (2 : Int32)), .val (.int x2)] [])) (fun t k => XS.goto X91.here hx rfl (pc0 := 64) (pc' := 3) rfl (hb hby own_d_jdk_2529_6_64) (by decide) (by decide) k) ?_
          refine own_by (V := T91.setTop (mkF m 6 #[.val (.ref o0), .val (.int (0 : Int32)), .val (.int (3 : Int32)), .val (.int (0 : Int32)), .val (.int (3 : Int32)), .val (.int x2)] [])) (fun t k => XS.iinc X91.here hx rfl (hb hby own_d_jdk_2529_6_3) rfl (l' := #[.val (.ref o0), .val (.int (0 : Int32)), .val (.int (3 : Int32)), .val (.int (0 : Int32)), .val (.int (3 : Int32)), .val (.int x2)]) rfl k) ?_
          refine own_by (V := T91.setTop (mkF m 8 #[.val (.ref o0), .val (.int (0 : Int32)), .val (.int (3 : Int32)), .val (.int (0 : Int32)), .val (.int (3 : Int32)), .val (.int x2)] [(.int (3 : Int32))])) (fun t k => XS.iload X91.here hx rfl (hb hby own_d_jdk_2529_6_6) rfl  k) ?_
          refine own_by (V := T91.setTop (mkF m 9 #[.val (.ref o0), .val (.int (0 : Int32)), .val (.int (3 : Int32)), .val (.int (0 : Int32)), .val (.int (3 : Int32)), .val (.int x2)] [(.int (3 : Int32)), (.int (3 : Int32))])) (fun t k => XS.iloadN X91.here hx rfl (hb hby own_d_jdk_2529_6_8) rfl  k) ?_
          have hb9_92 : ¬ ((3 : Int32) < (3 : Int32)) := by decide
          refine own_by (V := T91.setTop (mkF m 67 #[.val (.ref o0), .val (.int (0 : Int32)), .val (.int (3 : Int32)), .val (.int (0 : Int32)), .val (.int (3 : Int32)), .val (.int x2)] [])) (fun t k => XS.icmpYes X91.here hx rfl (pc0 := 9) (pc' := 67) rfl (hb hby own_d_jdk_2529_6_9) rfl (flt hb9_92).2.1 (by decide) (by decide) k) ?_
          refine own_ret0 X91 hx hlk e91 Bd.returns (hb hby own_d_jdk_2529_6_67) ?_ (by decide) (by decide)
          exact ⟨rfl, N91, K91, (by have q := own_s3_021 x0 x1 x2 (by (try rw [Int32.lt_iff_toInt_lt] at hb9_1); (try rw [Int32.lt_iff_toInt_lt] at hb27_4); (try rw [Int32.lt_iff_toInt_lt] at hb9_70); (try rw [Int32.lt_iff_toInt_lt] at hb27_73); (try rw [Int32.lt_iff_toInt_lt] at hb35_74); (try rw [Int32.lt_iff_toInt_lt] at hb43_76); (try rw [Int32.lt_iff_toInt_lt] at hb35_80); (try rw [Int32.lt_iff_toInt_lt] at hb43_82); (try rw [Int32.lt_iff_toInt_lt] at hb9_92); rw [Int32.lt_iff_toInt_lt]; omega) (by (try rw [Int32.lt_iff_toInt_lt] at hb9_1); (try rw [Int32.lt_iff_toInt_lt] at hb27_4); (try rw [Int32.lt_iff_toInt_lt] at hb9_70); (try rw [Int32.lt_iff_toInt_lt] at hb27_73); (try rw [Int32.lt_iff_toInt_lt] at hb35_74); (try rw [Int32.lt_iff_toInt_lt] at hb43_76); (try rw [Int32.lt_iff_toInt_lt] at hb35_80); (try rw [Int32.lt_iff_toInt_lt] at hb43_82); (try rw [Int32.lt_iff_toInt_lt] at hb9_92); rw [Int32.lt_iff_toInt_lt]; omega); rw [q.1, q.2.1, q.2.2]; exact V91)⟩
      · refine own_by (V := s₁.setTop (mkF m 57 #[.val (.ref o0), .val (.int (0 : Int32)), .val (.int (3 : Int32)), .val (.int (1 : Int32)), .val (.int (2 : Int32)), .val (.int x2)] [])) (fun t k => XS.icmpYes X0.here hx rfl (pc0 := 43) (pc' := 57) rfl (hb hby own_d_jdk_2529_6_43) rfl (flt hb43_76).2.1 (by decide) (by decide) k) ?_
        refine own_by (V := s₁.setTop (mkF m 58 #[.val (.ref o0), .val (.int (0 : Int32)), .val (.int (3 : Int32)), .val (.int (1 : Int32)), .val (.int (2 : Int32)), .val (.int x2)] [(.ref o0)])) (fun t k => XS.aloadN X0.here hx rfl (hb hby own_d_jdk_2529_6_57) rfl rfl k) ?_
        refine own_by (V := s₁.setTop (mkF m 59 #[.val (.ref o0), .val (.int (0 : Int32)), .val (.int (3 : Int32)), .val (.int (1 : Int32)), .val (.int (2 : Int32)), .val (.int x2)] [(.int (1 : Int32)), (.ref o0)])) (fun t k => XS.iloadN X0.here hx rfl (hb hby own_d_jdk_2529_6_58) rfl  k) ?_
        refine own_by (V := s₁.setTop (mkF m 60 #[.val (.ref o0), .val (.int (0 : Int32)), .val (.int (3 : Int32)), .val (.int (1 : Int32)), .val (.int (2 : Int32)), .val (.int x2)] [(.int (1 : Int32)), (.int (1 : Int32)), (.ref o0)])) (fun t k => XS.iconst X0.here hx rfl (hb hby own_d_jdk_2529_6_59) k) ?_
        refine own_by (V := s₁.setTop (mkF m 61 #[.val (.ref o0), .val (.int (0 : Int32)), .val (.int (3 : Int32)), .val (.int (1 : Int32)), .val (.int (2 : Int32)), .val (.int x2)] [(.int (2 : Int32)), (.ref o0)])) (fun t k => XS.iadd X0.here hx rfl (hb hby own_d_jdk_2529_6_60) rfl k) ?_
        refine own_by (V := s₁.setTop (mkF m 63 #[.val (.ref o0), .val (.int (0 : Int32)), .val (.int (3 : Int32)), .val (.int (1 : Int32)), .val (.int (2 : Int32)), .val (.int x2)] [(.int x2), (.int (2 : Int32)), (.ref o0)])) (fun t k => XS.iload X0.here hx rfl (hb hby own_d_jdk_2529_6_61) rfl  k) ?_
        obtain ⟨cl93, Ar93, qa93, Sa93, Ma93, Ha93, Ua93⟩ := id A0
        obtain ⟨T94, h94, X94, e94, W94, st94⟩ := stI X0 hx hZ e0 Ar93 (j := (2 : Int32)) (inb_of Sa93 ⟨(by decide), (by decide)⟩) (g := (mkF m 63 #[.val (.ref o0), .val (.int (0 : Int32)), .val (.int (3 : Int32)), .val (.int (1 : Int32)), .val (.int (2 : Int32)), .val (.int x2)] [(.int x2), (.int (2 : Int32)), (.ref o0)])) rfl rfl (hb hby own_d_jdk_2529_6_63)
        have N94 := Fr.snoc X94 N0 g0
        have K94 := (Keep.refl h0 [o0]).wr W94 (Or.inl (List.mem_of_getElem? (i := 0) rfl))
        have Zs94 : n0 ≤ h94.size := by rw [W94.size]; exact Z0
        have V94 : Arv Z h94 o0 kb .int (3 : Int32) [(.int x0), (.int x1), (.int x2)] (.int (0 : Int32)) := Arv.set Ar93 qa93 Sa93 Ma93 Ha93 Ua93 rfl W94 2 (by decide) (by simp)
        refine own_by (V := T94.setTop (mkF m 64 #[.val (.ref o0), .val (.int (0 : Int32)), .val (.int (3 : Int32)), .val (.int (1 : Int32)), .val (.int (2 : Int32)), .val (.int x2)] [])) st94 ?_
        refine own_by (V := T94.setTop (mkF m 3 #[.val (.ref o0), .val (.int (0 : Int32)), .val (.int (3 : Int32)), .val (.int (1 : Int32)), .val (.int (2 : Int32)), .val (.int x2)] [])) (fun t k => XS.goto X94.here hx rfl (pc0 := 64) (pc' := 3) rfl (hb hby own_d_jdk_2529_6_64) (by decide) (by decide) k) ?_
        refine own_by (V := T94.setTop (mkF m 6 #[.val (.ref o0), .val (.int (0 : Int32)), .val (.int (3 : Int32)), .val (.int (1 : Int32)), .val (.int (3 : Int32)), .val (.int x2)] [])) (fun t k => XS.iinc X94.here hx rfl (hb hby own_d_jdk_2529_6_3) rfl (l' := #[.val (.ref o0), .val (.int (0 : Int32)), .val (.int (3 : Int32)), .val (.int (1 : Int32)), .val (.int (3 : Int32)), .val (.int x2)]) rfl k) ?_
        refine own_by (V := T94.setTop (mkF m 8 #[.val (.ref o0), .val (.int (0 : Int32)), .val (.int (3 : Int32)), .val (.int (1 : Int32)), .val (.int (3 : Int32)), .val (.int x2)] [(.int (3 : Int32))])) (fun t k => XS.iload X94.here hx rfl (hb hby own_d_jdk_2529_6_6) rfl  k) ?_
        refine own_by (V := T94.setTop (mkF m 9 #[.val (.ref o0), .val (.int (0 : Int32)), .val (.int (3 : Int32)), .val (.int (1 : Int32)), .val (.int (3 : Int32)), .val (.int x2)] [(.int (3 : Int32)), (.int (3 : Int32))])) (fun t k => XS.iloadN X94.here hx rfl (hb hby own_d_jdk_2529_6_8) rfl  k) ?_
        have hb9_95 : ¬ ((3 : Int32) < (3 : Int32)) := by decide
        refine own_by (V := T94.setTop (mkF m 67 #[.val (.ref o0), .val (.int (0 : Int32)), .val (.int (3 : Int32)), .val (.int (1 : Int32)), .val (.int (3 : Int32)), .val (.int x2)] [])) (fun t k => XS.icmpYes X94.here hx rfl (pc0 := 9) (pc' := 67) rfl (hb hby own_d_jdk_2529_6_9) rfl (flt hb9_95).2.1 (by decide) (by decide) k) ?_
        refine own_ret0 X94 hx hlk e94 Bd.returns (hb hby own_d_jdk_2529_6_67) ?_ (by decide) (by decide)
        exact ⟨rfl, N94, K94, (by have q := own_s3_012 x0 x1 x2 (by (try rw [Int32.lt_iff_toInt_lt] at hb9_1); (try rw [Int32.lt_iff_toInt_lt] at hb27_4); (try rw [Int32.lt_iff_toInt_lt] at hb9_70); (try rw [Int32.lt_iff_toInt_lt] at hb27_73); (try rw [Int32.lt_iff_toInt_lt] at hb35_74); (try rw [Int32.lt_iff_toInt_lt] at hb43_76); (try rw [Int32.lt_iff_toInt_lt] at hb9_95); rw [Int32.lt_iff_toInt_lt]; omega) (by (try rw [Int32.lt_iff_toInt_lt] at hb9_1); (try rw [Int32.lt_iff_toInt_lt] at hb27_4); (try rw [Int32.lt_iff_toInt_lt] at hb9_70); (try rw [Int32.lt_iff_toInt_lt] at hb27_73); (try rw [Int32.lt_iff_toInt_lt] at hb35_74); (try rw [Int32.lt_iff_toInt_lt] at hb43_76); (try rw [Int32.lt_iff_toInt_lt] at hb9_95); rw [Int32.lt_iff_toInt_lt]; omega); rw [q.1, q.2.1, q.2.2]; exact V94)⟩
    · refine own_by (V := s₁.setTop (mkF m 64 #[.val (.ref o0), .val (.int (0 : Int32)), .val (.int (3 : Int32)), .val (.int (2 : Int32)), .val (.int (2 : Int32)), .val (.int x2)] [])) (fun t k => XS.icmpYes X0.here hx rfl (pc0 := 27) (pc' := 64) rfl (hb hby own_d_jdk_2529_6_27) rfl (flt hb27_73).2.1 (by decide) (by decide) k) ?_
      refine own_by (V := s₁.setTop (mkF m 3 #[.val (.ref o0), .val (.int (0 : Int32)), .val (.int (3 : Int32)), .val (.int (2 : Int32)), .val (.int (2 : Int32)), .val (.int x2)] [])) (fun t k => XS.goto X0.here hx rfl (pc0 := 64) (pc' := 3) rfl (hb hby own_d_jdk_2529_6_64) (by decide) (by decide) k) ?_
      refine own_by (V := s₁.setTop (mkF m 6 #[.val (.ref o0), .val (.int (0 : Int32)), .val (.int (3 : Int32)), .val (.int (2 : Int32)), .val (.int (3 : Int32)), .val (.int x2)] [])) (fun t k => XS.iinc X0.here hx rfl (hb hby own_d_jdk_2529_6_3) rfl (l' := #[.val (.ref o0), .val (.int (0 : Int32)), .val (.int (3 : Int32)), .val (.int (2 : Int32)), .val (.int (3 : Int32)), .val (.int x2)]) rfl k) ?_
      refine own_by (V := s₁.setTop (mkF m 8 #[.val (.ref o0), .val (.int (0 : Int32)), .val (.int (3 : Int32)), .val (.int (2 : Int32)), .val (.int (3 : Int32)), .val (.int x2)] [(.int (3 : Int32))])) (fun t k => XS.iload X0.here hx rfl (hb hby own_d_jdk_2529_6_6) rfl  k) ?_
      refine own_by (V := s₁.setTop (mkF m 9 #[.val (.ref o0), .val (.int (0 : Int32)), .val (.int (3 : Int32)), .val (.int (2 : Int32)), .val (.int (3 : Int32)), .val (.int x2)] [(.int (3 : Int32)), (.int (3 : Int32))])) (fun t k => XS.iloadN X0.here hx rfl (hb hby own_d_jdk_2529_6_8) rfl  k) ?_
      have hb9_96 : ¬ ((3 : Int32) < (3 : Int32)) := by decide
      refine own_by (V := s₁.setTop (mkF m 67 #[.val (.ref o0), .val (.int (0 : Int32)), .val (.int (3 : Int32)), .val (.int (2 : Int32)), .val (.int (3 : Int32)), .val (.int x2)] [])) (fun t k => XS.icmpYes X0.here hx rfl (pc0 := 9) (pc' := 67) rfl (hb hby own_d_jdk_2529_6_9) rfl (flt hb9_96).2.1 (by decide) (by decide) k) ?_
      refine own_ret0 X0 hx hlk e0 Bd.returns (hb hby own_d_jdk_2529_6_67) ?_ (by decide) (by decide)
      exact ⟨rfl, N0, (Keep.refl h0 [o0]), (by have q := own_s3_012 x0 x1 x2 (by (try rw [Int32.lt_iff_toInt_lt] at hb9_1); (try rw [Int32.lt_iff_toInt_lt] at hb27_4); (try rw [Int32.lt_iff_toInt_lt] at hb9_70); (try rw [Int32.lt_iff_toInt_lt] at hb27_73); (try rw [Int32.lt_iff_toInt_lt] at hb9_96); rw [Int32.lt_iff_toInt_lt]; omega) (by (try rw [Int32.lt_iff_toInt_lt] at hb9_1); (try rw [Int32.lt_iff_toInt_lt] at hb27_4); (try rw [Int32.lt_iff_toInt_lt] at hb9_70); (try rw [Int32.lt_iff_toInt_lt] at hb27_73); (try rw [Int32.lt_iff_toInt_lt] at hb9_96); rw [Int32.lt_iff_toInt_lt]; omega); rw [q.1, q.2.1, q.2.2]; exact A0)⟩
def own_Q_own_dq2_3 (Z : State) (o1 : Addr) (kb : ClassId) (x0 : Int32) (x1 : Int32) (x2 : Int32) (h0 : Heap) (n0 : Nat) : Option Value → Heap → List Loc → Prop := fun v h L => v = none ∧ Fr n0 L ∧ Keep h0 h [o1] ∧ Arv Z h o1 kb .int (3 : Int32) [(.int (own_min (own_min x0 x1) x2)), (.int (own_max (own_min x0 x1) (own_min (own_max x0 x1) x2))), (.int (own_max (own_max x0 x1) x2))] (.int (0 : Int32))
theorem own_ef_own_dq2_3 (m : MethodId) (x1 : Addr) : entryFrame m #[.null, (.ref x1), (.int (0 : Int32)), (.int (0 : Int32)), (.int (3 : Int32))] 21 = mkF m 0 #[.val .null, .val (.ref x1), .val (.int (0 : Int32)), .val (.int (0 : Int32)), .val (.int (3 : Int32)), .unset, .unset, .unset, .unset, .unset, .unset, .unset, .unset, .unset, .unset, .unset, .unset, .unset, .unset, .unset, .unset] [] := by first | (simp [entryFrame, mkF, argsToLocals, Value.category]; done) | rfl
set_option maxRecDepth 65536 in
set_option maxHeartbeats 40000000 in
theorem own_dq2_3 (l : Launch) (Z : State) (a0 : Array Value) (hw : ∀ d ∈ tables_1, d.before a0 Z = true) (ws : List Jvm.Cond) (o1 : Addr) (kb : ClassId) (x0 : Int32) (x1 : Int32) (x2 : Int32) (h0 : Heap) (n0 : Nat) (Z0 : n0 ≤ h0.size) (A0 : Arv Z h0 o1 kb .int (3 : Int32) [(.int x0), (.int x1), (.int x2)] (.int (0 : Int32))) (g0 : n0 ≤ o1) :
    MetFree l (⟨"java/util/DualPivotQuicksort", "sort", "(Ljava/util/DualPivotQuicksort$Sorter;[IIII)V"⟩ : MethodName) (head1 (Jvm.Cond.code (⟨"java/util/DualPivotQuicksort", "sort", "(Ljava/util/DualPivotQuicksort$Sorter;[IIII)V"⟩ : MethodName) jdk_2529_method_4_code 21 none :: ws) ({ frames := 1, cells := 0, slots := 0, locals := 17 } : Room)) (fun a U => a = #[.null, (.ref o1), (.int (0 : Int32)), (.int (0 : Int32)), (.int (3 : Int32))] ∧ Z.Warmed39 U.vm ∧ U.heap = h0) (fun _ _ _ _ _ => True) (fun _ U o U' => ∃ v L, o = .returned v ∧ (own_Q_own_dq2_3 Z o1 kb x0 x1 x2 h0 n0) v U'.heap L ∧ FrameEnd U o U' L ({ frames := 1, cells := 0, slots := 0, locals := 17 } : Room).cells ({ frames := 1, cells := 0, slots := 0, locals := 17 } : Room).slots) := by
  refine MetFree.of_bodySF (plainFor_of_name own_pn1) hisR ?_
  intro p e s m args below meth c s₁ Bd hml0 hP hK
  obtain ⟨rfl, hZ, hh⟩ := hP
  have hx := Bd.exec
  have hby := Bd.bytes
  have hml : c.maxLocals = 21 := hml0
  have hown : s.vm.findClass "java/util/DualPivotQuicksort" = some m.cls := findClass_of_methodNamed Bd.named
  have hnm := (name_of_methodNamed Bd.named Bd.method).1
  have hlk : meth.locks = false := BodyLoose.notSynchronized Bd
  have X0 : Stand p l e ({ frames := 1, cells := 0, slots := 0, locals := 17 } : Room) s m #[.null, (.ref o1), (.int (0 : Int32)), (.int (0 : Int32)), (.int (3 : Int32))] below meth c s₁ [] 0 0 := Stand.of_body Bd
  have e0 : s₁.heap = h0 := by rw [← hh, Bd.state]; rfl
  have N0 := Fr.nil n0
  show own_Ends p e below s (own_Q_own_dq2_3 Z o1 kb x0 x1 x2 h0 n0) ({ frames := 1, cells := 0, slots := 0, locals := 17 } : Room).cells ({ frames := 1, cells := 0, slots := 0, locals := 17 } : Room).slots _
  refine own_by (V := s₁.setTop (mkF m 0 #[.val .null, .val (.ref o1), .val (.int (0 : Int32)), .val (.int (0 : Int32)), .val (.int (3 : Int32)), .unset, .unset, .unset, .unset, .unset, .unset, .unset, .unset, .unset, .unset, .unset, .unset, .unset, .unset, .unset, .unset] [])) (fun t k => castTop (own_ef_own_dq2_3 m o1) k) ?_
  refine own_by (V := s₁.setTop (mkF m 2 #[.val .null, .val (.ref o1), .val (.int (0 : Int32)), .val (.int (0 : Int32)), .val (.int (3 : Int32)), .unset, .unset, .unset, .unset, .unset, .unset, .unset, .unset, .unset, .unset, .unset, .unset, .unset, .unset, .unset, .unset] [(.int (3 : Int32))])) (fun t k => XS.iload X0.here hx rfl (hb hby own_d_jdk_2529_4_0) rfl  k) ?_
  refine own_by (V := s₁.setTop (mkF m 3 #[.val .null, .val (.ref o1), .val (.int (0 : Int32)), .val (.int (0 : Int32)), .val (.int (3 : Int32)), .unset, .unset, .unset, .unset, .unset, .unset, .unset, .unset, .unset, .unset, .unset, .unset, .unset, .unset, .unset, .unset] [(.int (1 : Int32)), (.int (3 : Int32))])) (fun t k => XS.iconst X0.here hx rfl (hb hby own_d_jdk_2529_4_2) k) ?_
  refine own_by (V := s₁.setTop (mkF m 4 #[.val .null, .val (.ref o1), .val (.int (0 : Int32)), .val (.int (0 : Int32)), .val (.int (3 : Int32)), .unset, .unset, .unset, .unset, .unset, .unset, .unset, .unset, .unset, .unset, .unset, .unset, .unset, .unset, .unset, .unset] [(.int (2 : Int32))])) (fun t k => XS.isub X0.here hx rfl (hb hby own_d_jdk_2529_4_3) rfl k) ?_
  refine own_by (V := s₁.setTop (mkF m 6 #[.val .null, .val (.ref o1), .val (.int (0 : Int32)), .val (.int (0 : Int32)), .val (.int (3 : Int32)), .val (.int (2 : Int32)), .unset, .unset, .unset, .unset, .unset, .unset, .unset, .unset, .unset, .unset, .unset, .unset, .unset, .unset, .unset] [])) (fun t k => XS.istore X0.here hx rfl (hb hby own_d_jdk_2529_4_4) rfl (l' := #[.val .null, .val (.ref o1), .val (.int (0 : Int32)), .val (.int (0 : Int32)), .val (.int (3 : Int32)), .val (.int (2 : Int32)), .unset, .unset, .unset, .unset, .unset, .unset, .unset, .unset, .unset, .unset, .unset, .unset, .unset, .unset, .unset]) rfl k) ?_
  refine own_by (V := s₁.setTop (mkF m 8 #[.val .null, .val (.ref o1), .val (.int (0 : Int32)), .val (.int (0 : Int32)), .val (.int (3 : Int32)), .val (.int (2 : Int32)), .unset, .unset, .unset, .unset, .unset, .unset, .unset, .unset, .unset, .unset, .unset, .unset, .unset, .unset, .unset] [(.int (3 : Int32))])) (fun t k => XS.iload X0.here hx rfl (hb hby own_d_jdk_2529_4_6) rfl  k) ?_
  refine own_by (V := s₁.setTop (mkF m 9 #[.val .null, .val (.ref o1), .val (.int (0 : Int32)), .val (.int (0 : Int32)), .val (.int (3 : Int32)), .val (.int (2 : Int32)), .unset, .unset, .unset, .unset, .unset, .unset, .unset, .unset, .unset, .unset, .unset, .unset, .unset, .unset, .unset] [(.int (0 : Int32)), (.int (3 : Int32))])) (fun t k => XS.iloadN X0.here hx rfl (hb hby own_d_jdk_2529_4_8) rfl  k) ?_
  refine own_by (V := s₁.setTop (mkF m 10 #[.val .null, .val (.ref o1), .val (.int (0 : Int32)), .val (.int (0 : Int32)), .val (.int (3 : Int32)), .val (.int (2 : Int32)), .unset, .unset, .unset, .unset, .unset, .unset, .unset, .unset, .unset, .unset, .unset, .unset, .unset, .unset, .unset] [(.int (3 : Int32))])) (fun t k => XS.isub X0.here hx rfl (hb hby own_d_jdk_2529_4_9) rfl k) ?_
  refine own_by (V := s₁.setTop (mkF m 12 #[.val .null, .val (.ref o1), .val (.int (0 : Int32)), .val (.int (0 : Int32)), .val (.int (3 : Int32)), .val (.int (2 : Int32)), .val (.int (3 : Int32)), .unset, .unset, .unset, .unset, .unset, .unset, .unset, .unset, .unset, .unset, .unset, .unset, .unset, .unset] [])) (fun t k => XS.istore X0.here hx rfl (hb hby own_d_jdk_2529_4_10) rfl (l' := #[.val .null, .val (.ref o1), .val (.int (0 : Int32)), .val (.int (0 : Int32)), .val (.int (3 : Int32)), .val (.int (2 : Int32)), .val (.int (3 : Int32)), .unset, .unset, .unset, .unset, .unset, .unset, .unset, .unset, .unset, .unset, .unset, .unset, .unset, .unset]) rfl k) ?_
  refine own_by (V := s₁.setTop (mkF m 14 #[.val .null, .val (.ref o1), .val (.int (0 : Int32)), .val (.int (0 : Int32)), .val (.int (3 : Int32)), .val (.int (2 : Int32)), .val (.int (3 : Int32)), .unset, .unset, .unset, .unset, .unset, .unset, .unset, .unset, .unset, .unset, .unset, .unset, .unset, .unset] [(.int (3 : Int32))])) (fun t k => XS.iload X0.here hx rfl (hb hby own_d_jdk_2529_4_12) rfl  k) ?_
  refine own_by (V := s₁.setTop (mkF m 16 #[.val .null, .val (.ref o1), .val (.int (0 : Int32)), .val (.int (0 : Int32)), .val (.int (3 : Int32)), .val (.int (2 : Int32)), .val (.int (3 : Int32)), .unset, .unset, .unset, .unset, .unset, .unset, .unset, .unset, .unset, .unset, .unset, .unset, .unset, .unset] [(.int (65 : Int32)), (.int (3 : Int32))])) (fun t k => XS.bipush X0.here hx rfl (hb hby own_d_jdk_2529_4_14) k) ?_
  refine own_by (V := s₁.setTop (mkF m 17 #[.val .null, .val (.ref o1), .val (.int (0 : Int32)), .val (.int (0 : Int32)), .val (.int (3 : Int32)), .val (.int (2 : Int32)), .val (.int (3 : Int32)), .unset, .unset, .unset, .unset, .unset, .unset, .unset, .unset, .unset, .unset, .unset, .unset, .unset, .unset] [(.int (0 : Int32)), (.int (65 : Int32)), (.int (3 : Int32))])) (fun t k => XS.iloadN X0.here hx rfl (hb hby own_d_jdk_2529_4_16) rfl  k) ?_
  refine own_by (V := s₁.setTop (mkF m 18 #[.val .null, .val (.ref o1), .val (.int (0 : Int32)), .val (.int (0 : Int32)), .val (.int (3 : Int32)), .val (.int (2 : Int32)), .val (.int (3 : Int32)), .unset, .unset, .unset, .unset, .unset, .unset, .unset, .unset, .unset, .unset, .unset, .unset, .unset, .unset] [(.int (65 : Int32)), (.int (3 : Int32))])) (fun t k => XS.iadd X0.here hx rfl (hb hby own_d_jdk_2529_4_17) rfl k) ?_
  have hb18_1 : ((3 : Int32) < (65 : Int32)) := by decide
  refine own_by (V := s₁.setTop (mkF m 21 #[.val .null, .val (.ref o1), .val (.int (0 : Int32)), .val (.int (0 : Int32)), .val (.int (3 : Int32)), .val (.int (2 : Int32)), .val (.int (3 : Int32)), .unset, .unset, .unset, .unset, .unset, .unset, .unset, .unset, .unset, .unset, .unset, .unset, .unset, .unset] [])) (fun t k => XS.icmpNo X0.here hx rfl (hb hby own_d_jdk_2529_4_18) rfl (tlt hb18_1).2.1 k) ?_
  refine own_by (V := s₁.setTop (mkF m 22 #[.val .null, .val (.ref o1), .val (.int (0 : Int32)), .val (.int (0 : Int32)), .val (.int (3 : Int32)), .val (.int (2 : Int32)), .val (.int (3 : Int32)), .unset, .unset, .unset, .unset, .unset, .unset, .unset, .unset, .unset, .unset, .unset, .unset, .unset, .unset] [(.int (0 : Int32))])) (fun t k => XS.iloadN X0.here hx rfl (hb hby own_d_jdk_2529_4_21) rfl  k) ?_
  refine own_by (V := s₁.setTop (mkF m 23 #[.val .null, .val (.ref o1), .val (.int (0 : Int32)), .val (.int (0 : Int32)), .val (.int (3 : Int32)), .val (.int (2 : Int32)), .val (.int (3 : Int32)), .unset, .unset, .unset, .unset, .unset, .unset, .unset, .unset, .unset, .unset, .unset, .unset, .unset, .unset] [(.int (1 : Int32)), (.int (0 : Int32))])) (fun t k => XS.iconst X0.here hx rfl (hb hby own_d_jdk_2529_4_22) k) ?_
  refine own_by (V := s₁.setTop (mkF m 24 #[.val .null, .val (.ref o1), .val (.int (0 : Int32)), .val (.int (0 : Int32)), .val (.int (3 : Int32)), .val (.int (2 : Int32)), .val (.int (3 : Int32)), .unset, .unset, .unset, .unset, .unset, .unset, .unset, .unset, .unset, .unset, .unset, .unset, .unset, .unset] [(.int (0 : Int32))])) (fun t k => XS.iand X0.here hx rfl (hb hby own_d_jdk_2529_4_23) rfl k) ?_
  have hb24_2 : ¬ ((0 : Int32) < (0 : Int32)) := by decide
  refine own_by (V := s₁.setTop (mkF m 46 #[.val .null, .val (.ref o1), .val (.int (0 : Int32)), .val (.int (0 : Int32)), .val (.int (3 : Int32)), .val (.int (2 : Int32)), .val (.int (3 : Int32)), .unset, .unset, .unset, .unset, .unset, .unset, .unset, .unset, .unset, .unset, .unset, .unset, .unset, .unset] [])) (fun t k => XS.ifYes X0.here hx rfl (pc0 := 24) (pc' := 46) rfl (hb hby own_d_jdk_2529_4_24) rfl ((if0 _ _).trans (flt hb24_2).2.2.2) (by decide) (by decide) k) ?_
  refine own_by (V := s₁.setTop (mkF m 48 #[.val .null, .val (.ref o1), .val (.int (0 : Int32)), .val (.int (0 : Int32)), .val (.int (3 : Int32)), .val (.int (2 : Int32)), .val (.int (3 : Int32)), .unset, .unset, .unset, .unset, .unset, .unset, .unset, .unset, .unset, .unset, .unset, .unset, .unset, .unset] [(.int (3 : Int32))])) (fun t k => XS.iload X0.here hx rfl (hb hby own_d_jdk_2529_4_46) rfl  k) ?_
  refine own_by (V := s₁.setTop (mkF m 50 #[.val .null, .val (.ref o1), .val (.int (0 : Int32)), .val (.int (0 : Int32)), .val (.int (3 : Int32)), .val (.int (2 : Int32)), .val (.int (3 : Int32)), .unset, .unset, .unset, .unset, .unset, .unset, .unset, .unset, .unset, .unset, .unset, .unset, .unset, .unset] [(.int (44 : Int32)), (.int (3 : Int32))])) (fun t k => XS.bipush X0.here hx rfl (hb hby own_d_jdk_2529_4_48) k) ?_
  have hb50_3 : ((3 : Int32) < (44 : Int32)) := by decide
  refine own_by (V := s₁.setTop (mkF m 53 #[.val .null, .val (.ref o1), .val (.int (0 : Int32)), .val (.int (0 : Int32)), .val (.int (3 : Int32)), .val (.int (2 : Int32)), .val (.int (3 : Int32)), .unset, .unset, .unset, .unset, .unset, .unset, .unset, .unset, .unset, .unset, .unset, .unset, .unset, .unset] [])) (fun t k => XS.icmpNo X0.here hx rfl (hb hby own_d_jdk_2529_4_50) rfl (tlt hb50_3).2.1 k) ?_
  refine own_by (V := s₁.setTop (mkF m 54 #[.val .null, .val (.ref o1), .val (.int (0 : Int32)), .val (.int (0 : Int32)), .val (.int (3 : Int32)), .val (.int (2 : Int32)), .val (.int (3 : Int32)), .unset, .unset, .unset, .unset, .unset, .unset, .unset, .unset, .unset, .unset, .unset, .unset, .unset, .unset] [(.ref o1)])) (fun t k => XS.aloadN X0.here hx rfl (hb hby own_d_jdk_2529_4_53) rfl rfl k) ?_
  refine own_by (V := s₁.setTop (mkF m 55 #[.val .null, .val (.ref o1), .val (.int (0 : Int32)), .val (.int (0 : Int32)), .val (.int (3 : Int32)), .val (.int (2 : Int32)), .val (.int (3 : Int32)), .unset, .unset, .unset, .unset, .unset, .unset, .unset, .unset, .unset, .unset, .unset, .unset, .unset, .unset] [(.int (0 : Int32)), (.ref o1)])) (fun t k => XS.iloadN X0.here hx rfl (hb hby own_d_jdk_2529_4_54) rfl  k) ?_
  refine own_by (V := s₁.setTop (mkF m 57 #[.val .null, .val (.ref o1), .val (.int (0 : Int32)), .val (.int (0 : Int32)), .val (.int (3 : Int32)), .val (.int (2 : Int32)), .val (.int (3 : Int32)), .unset, .unset, .unset, .unset, .unset, .unset, .unset, .unset, .unset, .unset, .unset, .unset, .unset, .unset] [(.int (3 : Int32)), (.int (0 : Int32)), (.ref o1)])) (fun t k => XS.iload X0.here hx rfl (hb hby own_d_jdk_2529_4_55) rfl  k) ?_
  obtain ⟨_, _, ⟨T4, Lq4, kq4, nq4⟩, -, X4, ⟨Lc4, hQ4, lq4, yq4, zq4⟩, st4⟩ := Jvm.LawKit.callS X0 hx (y := (⟨"java/util/DualPivotQuicksort", "insertionSort", "([III)V"⟩ : MethodName)) hown (mvT hZ (hw _ (List.mem_of_getElem? (i := 45) rfl))) (mvT hZ (hw _ (List.mem_of_getElem? (i := 46) rfl))) (mvT hZ (hw _ (List.mem_of_getElem? (i := 40) rfl))) (mvT hZ (hw _ (List.mem_of_getElem? (i := 47) rfl))) (by decide) (backOf (W := 0) (own_ins_3 l Z a0 hw [] o1 kb x0 x1 x2 h0 n0 Z0 A0 g0) hZ (hw _ (List.mem_of_getElem? (i := 47) rfl)) (hw _ (List.mem_of_getElem? (i := 40) rfl)) (by decide) (by decide)) (g := (mkF m 57 #[.val .null, .val (.ref o1), .val (.int (0 : Int32)), .val (.int (0 : Int32)), .val (.int (3 : Int32)), .val (.int (2 : Int32)), .val (.int (3 : Int32)), .unset, .unset, .unset, .unset, .unset, .unset, .unset, .unset, .unset, .unset, .unset, .unset, .unset, .unset] [(.int (3 : Int32)), (.int (0 : Int32)), (.ref o1)])) rfl (by rw [hml]; rfl) (argsL := [(.ref o1), (.int (0 : Int32)), (.int (3 : Int32))]) (rest := []) (lenOf own_pd0 rfl) rfl (by show 2 * 0 + _ ≤ _; exact Nat.le_of_eq rfl) (hb hby own_d_jdk_2529_4_57) (fun _ _ => ⟨rfl, e0, (by decide : 0 + 0 ≤ _), (by decide : 0 + 0 ≤ _)⟩)
  dsimp only [Pt.U, Pt.locs, Pt.cells, Pt.slots] at X4 lq4 yq4 zq4 st4 hQ4
  subst lq4 yq4 zq4
  obtain ⟨rfl, N4q, Kc4, g4_0⟩ := hQ4
  have N4 := Fr.app N0 N4q
  have K4 := (Keep.refl h0 [o1]).trans Kc4 (allS (Or.inl (List.mem_of_getElem? (i := 0) rfl)) all0)
  have Zs4 : n0 ≤ T4.heap.size := Nat.le_trans Z0 Kc4.1
  refine own_by (V := T4.setTop (mkF m 60 #[.val .null, .val (.ref o1), .val (.int (0 : Int32)), .val (.int (0 : Int32)), .val (.int (3 : Int32)), .val (.int (2 : Int32)), .val (.int (3 : Int32)), .unset, .unset, .unset, .unset, .unset, .unset, .unset, .unset, .unset, .unset, .unset, .unset, .unset, .unset] [])) st4 ?_
  refine own_ret0 X4 hx hlk rfl Bd.returns (hb hby own_d_jdk_2529_4_60) ?_ (by decide) (by decide)
  exact ⟨rfl, N4, K4, g4_0⟩
def own_Q_own_dq1_3 (Z : State) (o0 : Addr) (kb : ClassId) (x0 : Int32) (x1 : Int32) (x2 : Int32) (h0 : Heap) (n0 : Nat) : Option Value → Heap → List Loc → Prop := fun v h L => v = none ∧ Fr n0 L ∧ Keep h0 h [o0] ∧ Arv Z h o0 kb .int (3 : Int32) [(.int (own_min (own_min x0 x1) x2)), (.int (own_max (own_min x0 x1) (own_min (own_max x0 x1) x2))), (.int (own_max (own_max x0 x1) x2))] (.int (0 : Int32))
theorem own_ef_own_dq1_3 (m : MethodId) (x0 : Addr) : entryFrame m #[(.ref x0), (.int (0 : Int32)), (.int (0 : Int32)), (.int (3 : Int32))] 7 = mkF m 0 #[.val (.ref x0), .val (.int (0 : Int32)), .val (.int (0 : Int32)), .val (.int (3 : Int32)), .unset, .unset, .unset] [] := by first | (simp [entryFrame, mkF, argsToLocals, Value.category]; done) | rfl
set_option maxRecDepth 65536 in
set_option maxHeartbeats 40000000 in
theorem own_dq1_3 (l : Launch) (Z : State) (a0 : Array Value) (hw : ∀ d ∈ tables_1, d.before a0 Z = true) (ws : List Jvm.Cond) (o0 : Addr) (kb : ClassId) (x0 : Int32) (x1 : Int32) (x2 : Int32) (h0 : Heap) (n0 : Nat) (Z0 : n0 ≤ h0.size) (A0 : Arv Z h0 o0 kb .int (3 : Int32) [(.int x0), (.int x1), (.int x2)] (.int (0 : Int32))) (g0 : n0 ≤ o0) :
    MetFree l (⟨"java/util/DualPivotQuicksort", "sort", "([IIII)V"⟩ : MethodName) (head1 (Jvm.Cond.code (⟨"java/util/DualPivotQuicksort", "sort", "([IIII)V"⟩ : MethodName) jdk_2529_method_3_code 7 none :: ws) ({ frames := 2, cells := 0, slots := 0, locals := 49 } : Room)) (fun a U => a = #[(.ref o0), (.int (0 : Int32)), (.int (0 : Int32)), (.int (3 : Int32))] ∧ Z.Warmed39 U.vm ∧ U.heap = h0) (fun _ _ _ _ _ => True) (fun _ U o U' => ∃ v L, o = .returned v ∧ (own_Q_own_dq1_3 Z o0 kb x0 x1 x2 h0 n0) v U'.heap L ∧ FrameEnd U o U' L ({ frames := 2, cells := 0, slots := 0, locals := 49 } : Room).cells ({ frames := 2, cells := 0, slots := 0, locals := 49 } : Room).slots) := by
  refine MetFree.of_bodySF (plainFor_of_name own_pn1) hisR ?_
  intro p e s m args below meth c s₁ Bd hml0 hP hK
  obtain ⟨rfl, hZ, hh⟩ := hP
  have hx := Bd.exec
  have hby := Bd.bytes
  have hml : c.maxLocals = 7 := hml0
  have hown : s.vm.findClass "java/util/DualPivotQuicksort" = some m.cls := findClass_of_methodNamed Bd.named
  have hnm := (name_of_methodNamed Bd.named Bd.method).1
  have hlk : meth.locks = false := BodyLoose.notSynchronized Bd
  have X0 : Stand p l e ({ frames := 2, cells := 0, slots := 0, locals := 49 } : Room) s m #[(.ref o0), (.int (0 : Int32)), (.int (0 : Int32)), (.int (3 : Int32))] below meth c s₁ [] 0 0 := Stand.of_body Bd
  have e0 : s₁.heap = h0 := by rw [← hh, Bd.state]; rfl
  have N0 := Fr.nil n0
  show own_Ends p e below s (own_Q_own_dq1_3 Z o0 kb x0 x1 x2 h0 n0) ({ frames := 2, cells := 0, slots := 0, locals := 49 } : Room).cells ({ frames := 2, cells := 0, slots := 0, locals := 49 } : Room).slots _
  refine own_by (V := s₁.setTop (mkF m 0 #[.val (.ref o0), .val (.int (0 : Int32)), .val (.int (0 : Int32)), .val (.int (3 : Int32)), .unset, .unset, .unset] [])) (fun t k => castTop (own_ef_own_dq1_3 m o0) k) ?_
  refine own_by (V := s₁.setTop (mkF m 1 #[.val (.ref o0), .val (.int (0 : Int32)), .val (.int (0 : Int32)), .val (.int (3 : Int32)), .unset, .unset, .unset] [(.int (3 : Int32))])) (fun t k => XS.iloadN X0.here hx rfl (hb hby own_d_jdk_2529_3_0) rfl  k) ?_
  refine own_by (V := s₁.setTop (mkF m 2 #[.val (.ref o0), .val (.int (0 : Int32)), .val (.int (0 : Int32)), .val (.int (3 : Int32)), .unset, .unset, .unset] [(.int (0 : Int32)), (.int (3 : Int32))])) (fun t k => XS.iloadN X0.here hx rfl (hb hby own_d_jdk_2529_3_1) rfl  k) ?_
  refine own_by (V := s₁.setTop (mkF m 3 #[.val (.ref o0), .val (.int (0 : Int32)), .val (.int (0 : Int32)), .val (.int (3 : Int32)), .unset, .unset, .unset] [(.int (3 : Int32))])) (fun t k => XS.isub X0.here hx rfl (hb hby own_d_jdk_2529_3_2) rfl k) ?_
  refine own_by (V := s₁.setTop (mkF m 5 #[.val (.ref o0), .val (.int (0 : Int32)), .val (.int (0 : Int32)), .val (.int (3 : Int32)), .val (.int (3 : Int32)), .unset, .unset] [])) (fun t k => XS.istore X0.here hx rfl (hb hby own_d_jdk_2529_3_3) rfl (l' := #[.val (.ref o0), .val (.int (0 : Int32)), .val (.int (0 : Int32)), .val (.int (3 : Int32)), .val (.int (3 : Int32)), .unset, .unset]) rfl k) ?_
  refine own_by (V := s₁.setTop (mkF m 6 #[.val (.ref o0), .val (.int (0 : Int32)), .val (.int (0 : Int32)), .val (.int (3 : Int32)), .val (.int (3 : Int32)), .unset, .unset] [(.int (0 : Int32))])) (fun t k => XS.iloadN X0.here hx rfl (hb hby own_d_jdk_2529_3_5) rfl  k) ?_
  refine own_by (V := s₁.setTop (mkF m 7 #[.val (.ref o0), .val (.int (0 : Int32)), .val (.int (0 : Int32)), .val (.int (3 : Int32)), .val (.int (3 : Int32)), .unset, .unset] [(.int (1 : Int32)), (.int (0 : Int32))])) (fun t k => XS.iconst X0.here hx rfl (hb hby own_d_jdk_2529_3_6) k) ?_
  have hb7_1 : ¬ ((1 : Int32) < (0 : Int32)) := by decide
  refine own_by (V := s₁.setTop (mkF m 68 #[.val (.ref o0), .val (.int (0 : Int32)), .val (.int (0 : Int32)), .val (.int (3 : Int32)), .val (.int (3 : Int32)), .unset, .unset] [])) (fun t k => XS.icmpYes X0.here hx rfl (pc0 := 7) (pc' := 68) rfl (hb hby own_d_jdk_2529_3_7) rfl (flt hb7_1).2.2.2 (by decide) (by decide) k) ?_
  refine own_by (V := s₁.setTop (mkF m 69 #[.val (.ref o0), .val (.int (0 : Int32)), .val (.int (0 : Int32)), .val (.int (3 : Int32)), .val (.int (3 : Int32)), .unset, .unset] [.null])) (fun t k => XS.aconstNull X0.here hx rfl (hb hby own_d_jdk_2529_3_68) k) ?_
  refine own_by (V := s₁.setTop (mkF m 70 #[.val (.ref o0), .val (.int (0 : Int32)), .val (.int (0 : Int32)), .val (.int (3 : Int32)), .val (.int (3 : Int32)), .unset, .unset] [(.ref o0), .null])) (fun t k => XS.aloadN X0.here hx rfl (hb hby own_d_jdk_2529_3_69) rfl rfl k) ?_
  refine own_by (V := s₁.setTop (mkF m 71 #[.val (.ref o0), .val (.int (0 : Int32)), .val (.int (0 : Int32)), .val (.int (3 : Int32)), .val (.int (3 : Int32)), .unset, .unset] [(.int (0 : Int32)), (.ref o0), .null])) (fun t k => XS.iconst X0.here hx rfl (hb hby own_d_jdk_2529_3_70) k) ?_
  refine own_by (V := s₁.setTop (mkF m 72 #[.val (.ref o0), .val (.int (0 : Int32)), .val (.int (0 : Int32)), .val (.int (3 : Int32)), .val (.int (3 : Int32)), .unset, .unset] [(.int (0 : Int32)), (.int (0 : Int32)), (.ref o0), .null])) (fun t k => XS.iloadN X0.here hx rfl (hb hby own_d_jdk_2529_3_71) rfl  k) ?_
  refine own_by (V := s₁.setTop (mkF m 73 #[.val (.ref o0), .val (.int (0 : Int32)), .val (.int (0 : Int32)), .val (.int (3 : Int32)), .val (.int (3 : Int32)), .unset, .unset] [(.int (3 : Int32)), (.int (0 : Int32)), (.int (0 : Int32)), (.ref o0), .null])) (fun t k => XS.iloadN X0.here hx rfl (hb hby own_d_jdk_2529_3_72) rfl  k) ?_
  obtain ⟨_, _, ⟨T2, Lq2, kq2, nq2⟩, -, X2, ⟨Lc2, hQ2, lq2, yq2, zq2⟩, st2⟩ := Jvm.LawKit.callS X0 hx (y := (⟨"java/util/DualPivotQuicksort", "sort", "(Ljava/util/DualPivotQuicksort$Sorter;[IIII)V"⟩ : MethodName)) hown (mvT hZ (hw _ (List.mem_of_getElem? (i := 42) rfl))) (mvT hZ (hw _ (List.mem_of_getElem? (i := 43) rfl))) (mvT hZ (hw _ (List.mem_of_getElem? (i := 40) rfl))) (mvT hZ (hw _ (List.mem_of_getElem? (i := 44) rfl))) (by decide) (backOf (W := 0) (own_dq2_3 l Z a0 hw [] o0 kb x0 x1 x2 h0 n0 Z0 A0 g0) hZ (hw _ (List.mem_of_getElem? (i := 44) rfl)) (hw _ (List.mem_of_getElem? (i := 40) rfl)) (by decide) (by decide)) (g := (mkF m 73 #[.val (.ref o0), .val (.int (0 : Int32)), .val (.int (0 : Int32)), .val (.int (3 : Int32)), .val (.int (3 : Int32)), .unset, .unset] [(.int (3 : Int32)), (.int (0 : Int32)), (.int (0 : Int32)), (.ref o0), .null])) rfl (by rw [hml]; rfl) (argsL := [.null, (.ref o0), (.int (0 : Int32)), (.int (0 : Int32)), (.int (3 : Int32))]) (rest := []) (lenOf own_pd1 rfl) rfl (by show 2 * 0 + _ ≤ _; exact Nat.le_of_eq rfl) (hb hby own_d_jdk_2529_3_73) (fun _ _ => ⟨rfl, e0, (by decide : 0 + 0 ≤ _), (by decide : 0 + 0 ≤ _)⟩)
  dsimp only [Pt.U, Pt.locs, Pt.cells, Pt.slots] at X2 lq2 yq2 zq2 st2 hQ2
  subst lq2 yq2 zq2
  obtain ⟨rfl, N2q, Kc2, g2_0⟩ := hQ2
  have N2 := Fr.app N0 N2q
  have K2 := (Keep.refl h0 [o0]).trans Kc2 (allS (Or.inl (List.mem_of_getElem? (i := 0) rfl)) all0)
  have Zs2 : n0 ≤ T2.heap.size := Nat.le_trans Z0 Kc2.1
  refine own_by (V := T2.setTop (mkF m 76 #[.val (.ref o0), .val (.int (0 : Int32)), .val (.int (0 : Int32)), .val (.int (3 : Int32)), .val (.int (3 : Int32)), .unset, .unset] [])) st2 ?_
  refine own_ret0 X2 hx hlk rfl Bd.returns (hb hby own_d_jdk_2529_3_76) ?_ (by decide) (by decide)
  exact ⟨rfl, N2, K2, g2_0⟩
def own_Q_own_sort_3 (Z : State) (o0 : Addr) (kb : ClassId) (x0 : Int32) (x1 : Int32) (x2 : Int32) (h0 : Heap) (n0 : Nat) : Option Value → Heap → List Loc → Prop := fun v h L => v = none ∧ Fr n0 L ∧ Keep h0 h [o0] ∧ Arv Z h o0 kb .int (3 : Int32) [(.int (own_min (own_min x0 x1) x2)), (.int (own_max (own_min x0 x1) (own_min (own_max x0 x1) x2))), (.int (own_max (own_max x0 x1) x2))] (.int (0 : Int32))
theorem own_ef_own_sort_3 (m : MethodId) (x0 : Addr) : entryFrame m #[(.ref x0)] 1 = mkF m 0 #[.val (.ref x0)] [] := by first | (simp [entryFrame, mkF, argsToLocals, Value.category]; done) | rfl
set_option maxRecDepth 65536 in
set_option maxHeartbeats 40000000 in
theorem own_sort_3 (l : Launch) (Z : State) (a0 : Array Value) (hw : ∀ d ∈ tables_1, d.before a0 Z = true) (ws : List Jvm.Cond) (o0 : Addr) (kb : ClassId) (x0 : Int32) (x1 : Int32) (x2 : Int32) (h0 : Heap) (n0 : Nat) (Z0 : n0 ≤ h0.size) (A0 : Arv Z h0 o0 kb .int (3 : Int32) [(.int x0), (.int x1), (.int x2)] (.int (0 : Int32))) (g0 : n0 ≤ o0) :
    MetFree l (⟨"java/util/Arrays", "sort", "([I)V"⟩ : MethodName) (head1 (Jvm.Cond.code (⟨"java/util/Arrays", "sort", "([I)V"⟩ : MethodName) jdk_65_method_2_code 1 none :: ws) ({ frames := 3, cells := 0, slots := 0, locals := 67 } : Room)) (fun a U => a = #[(.ref o0)] ∧ Z.Warmed39 U.vm ∧ U.heap = h0) (fun _ _ _ _ _ => True) (fun _ U o U' => ∃ v L, o = .returned v ∧ (own_Q_own_sort_3 Z o0 kb x0 x1 x2 h0 n0) v U'.heap L ∧ FrameEnd U o U' L ({ frames := 3, cells := 0, slots := 0, locals := 67 } : Room).cells ({ frames := 3, cells := 0, slots := 0, locals := 67 } : Room).slots) := by
  refine MetFree.of_bodySF (plainFor_of_name own_pn2) hisR ?_
  intro p e s m args below meth c s₁ Bd hml0 hP hK
  obtain ⟨rfl, hZ, hh⟩ := hP
  have hx := Bd.exec
  have hby := Bd.bytes
  have hml : c.maxLocals = 1 := hml0
  have hown : s.vm.findClass "java/util/Arrays" = some m.cls := findClass_of_methodNamed Bd.named
  have hnm := (name_of_methodNamed Bd.named Bd.method).1
  have hlk : meth.locks = false := BodyLoose.notSynchronized Bd
  have X0 : Stand p l e ({ frames := 3, cells := 0, slots := 0, locals := 67 } : Room) s m #[(.ref o0)] below meth c s₁ [] 0 0 := Stand.of_body Bd
  have e0 : s₁.heap = h0 := by rw [← hh, Bd.state]; rfl
  have N0 := Fr.nil n0
  show own_Ends p e below s (own_Q_own_sort_3 Z o0 kb x0 x1 x2 h0 n0) ({ frames := 3, cells := 0, slots := 0, locals := 67 } : Room).cells ({ frames := 3, cells := 0, slots := 0, locals := 67 } : Room).slots _
  refine own_by (V := s₁.setTop (mkF m 0 #[.val (.ref o0)] [])) (fun t k => castTop (own_ef_own_sort_3 m o0) k) ?_
  refine own_by (V := s₁.setTop (mkF m 1 #[.val (.ref o0)] [(.ref o0)])) (fun t k => XS.aloadN X0.here hx rfl (hb hby own_d_jdk_65_2_0) rfl rfl k) ?_
  refine own_by (V := s₁.setTop (mkF m 2 #[.val (.ref o0)] [(.int (0 : Int32)), (.ref o0)])) (fun t k => XS.iconst X0.here hx rfl (hb hby own_d_jdk_65_2_1) k) ?_
  refine own_by (V := s₁.setTop (mkF m 3 #[.val (.ref o0)] [(.int (0 : Int32)), (.int (0 : Int32)), (.ref o0)])) (fun t k => XS.iconst X0.here hx rfl (hb hby own_d_jdk_65_2_2) k) ?_
  refine own_by (V := s₁.setTop (mkF m 4 #[.val (.ref o0)] [(.ref o0), (.int (0 : Int32)), (.int (0 : Int32)), (.ref o0)])) (fun t k => XS.aloadN X0.here hx rfl (hb hby own_d_jdk_65_2_3) rfl rfl k) ?_
  obtain ⟨cl1, Ar1, qa1, Sa1, Ma1, Ha1, Ua1⟩ := id A0
  have hl1 := len_of Sa1 Ma1
  refine own_by (V := s₁.setTop (mkF m 5 #[.val (.ref o0)] [(.int (3 : Int32)), (.int (0 : Int32)), (.int (0 : Int32)), (.ref o0)])) (by have q := X0.arraylength hx (cell := cl1) (by rw [e0]; exact Ar1.1) (State.isArrayOf_alike hZ.alike Ar1.2.1) (g := (mkF m 4 #[.val (.ref o0)] [(.ref o0), (.int (0 : Int32)), (.int (0 : Int32)), (.ref o0)])) rfl (rest := [(.int (0 : Int32)), (.int (0 : Int32)), (.ref o0)]) rfl (hb hby own_d_jdk_65_2_4); rw [hl1] at q; exact q) ?_
  obtain ⟨_, _, ⟨T2, Lq2, kq2, nq2⟩, -, X2, ⟨Lc2, hQ2, lq2, yq2, zq2⟩, st2⟩ := Jvm.LawKit.callS X0 hx (y := (⟨"java/util/DualPivotQuicksort", "sort", "([IIII)V"⟩ : MethodName)) hown (mvT hZ (hw _ (List.mem_of_getElem? (i := 38) rfl))) (mvT hZ (hw _ (List.mem_of_getElem? (i := 39) rfl))) (mvT hZ (hw _ (List.mem_of_getElem? (i := 40) rfl))) (mvT hZ (hw _ (List.mem_of_getElem? (i := 41) rfl))) (by decide) (backOf (W := 0) (own_dq1_3 l Z a0 hw [] o0 kb x0 x1 x2 h0 n0 Z0 A0 g0) hZ (hw _ (List.mem_of_getElem? (i := 41) rfl)) (hw _ (List.mem_of_getElem? (i := 40) rfl)) (by decide) (by decide)) (g := (mkF m 5 #[.val (.ref o0)] [(.int (3 : Int32)), (.int (0 : Int32)), (.int (0 : Int32)), (.ref o0)])) rfl (by rw [hml]; rfl) (argsL := [(.ref o0), (.int (0 : Int32)), (.int (0 : Int32)), (.int (3 : Int32))]) (rest := []) (lenOf own_pd2 rfl) rfl (by show 2 * 0 + _ ≤ _; exact Nat.le_of_eq rfl) (hb hby own_d_jdk_65_2_5) (fun _ _ => ⟨rfl, e0, (by decide : 0 + 0 ≤ _), (by decide : 0 + 0 ≤ _)⟩)
  dsimp only [Pt.U, Pt.locs, Pt.cells, Pt.slots] at X2 lq2 yq2 zq2 st2 hQ2
  subst lq2 yq2 zq2
  obtain ⟨rfl, N2q, Kc2, g2_0⟩ := hQ2
  have N2 := Fr.app N0 N2q
  have K2 := (Keep.refl h0 [o0]).trans Kc2 (allS (Or.inl (List.mem_of_getElem? (i := 0) rfl)) all0)
  have Zs2 : n0 ≤ T2.heap.size := Nat.le_trans Z0 Kc2.1
  refine own_by (V := T2.setTop (mkF m 8 #[.val (.ref o0)] [])) st2 ?_
  refine own_ret0 X2 hx hlk rfl Bd.returns (hb hby own_d_jdk_65_2_8) ?_ (by decide) (by decide)
  exact ⟨rfl, N2, K2, g2_0⟩
def own_Q_own_snap_3 (Z : State) (o0 : Addr) (o1 : Addr) (o2 : Addr) (kb : ClassId) (x0 : Int32) (x1 : Int32) (x2 : Int32) (h0 : Heap) (n0 : Nat) : Option Value → Heap → List Loc → Prop := fun v h L => ∃ (b : Addr), v = none ∧ Fr n0 L ∧ Keep h0 h [o0] ∧ h0.size ≤ b ∧ Exa Z h o0 "com/example/nocord/nocord/model/Snapshot" ∧ Fld Z h o0 "com/example/nocord/nocord/model/Snapshot" "timestamp" "Lcom/example/nocord/nocord/model/Timestamp;" (.ref o1) ∧ Fld Z h o0 "com/example/nocord/nocord/model/Snapshot" "installing" "[I" (.ref b) ∧ Arv Z h b kb .int (3 : Int32) [(.int (own_min (own_min x0 x1) x2)), (.int (own_max (own_min x0 x1) (own_min (own_max x0 x1) x2))), (.int (own_max (own_max x0 x1) x2))] (.int (0 : Int32)) ∧ Exa Z h b "[I"
theorem own_ef_own_snap_3 (m : MethodId) (x0 : Addr) (x1 : Addr) (x2 : Addr) : entryFrame m #[(.ref x0), (.ref x1), (.ref x2)] 3 = mkF m 0 #[.val (.ref x0), .val (.ref x1), .val (.ref x2)] [] := by first | (simp [entryFrame, mkF, argsToLocals, Value.category]; done) | rfl
set_option maxRecDepth 65536 in
set_option maxHeartbeats 40000000 in
theorem own_snap_3 (l : Launch) (Z : State) (a0 : Array Value) (hw : ∀ d ∈ tables_1, d.before a0 Z = true) (ws : List Jvm.Cond) (o0 : Addr) (o1 : Addr) (o2 : Addr) (kb : ClassId) (x0 : Int32) (x1 : Int32) (x2 : Int32) (h0 : Heap) (n0 : Nat) (Z0 : n0 ≤ h0.size) (g0 : n0 ≤ o0) (E0 : Exa Z h0 o0 "com/example/nocord/nocord/model/Snapshot") (Ft : Fld Z h0 o0 "com/example/nocord/nocord/model/Snapshot" "timestamp" "Lcom/example/nocord/nocord/model/Timestamp;" .null) (Fi : Fld Z h0 o0 "com/example/nocord/nocord/model/Snapshot" "installing" "[I" .null) (A2 : Arv Z h0 o2 kb .int (3 : Int32) [(.int x0), (.int x1), (.int x2)] (.int (0 : Int32))) (E2 : Exa Z h0 o2 "[I") (hne : o2 ≠ o0) :
    MetFree l (⟨"com/example/nocord/nocord/model/Snapshot", "<init>", "(Lcom/example/nocord/nocord/model/Timestamp;[I)V"⟩ : MethodName) (head1 (Jvm.Cond.code (⟨"com/example/nocord/nocord/model/Snapshot", "<init>", "(Lcom/example/nocord/nocord/model/Timestamp;[I)V"⟩ : MethodName) prog_47_method_1_code 3 none :: ws) ({ frames := 4, cells := 1, slots := 3, locals := 79 } : Room)) (fun a U => a = #[(.ref o0), (.ref o1), (.ref o2)] ∧ Z.Warmed39 U.vm ∧ U.heap = h0) (fun _ _ _ _ _ => True) (fun _ U o U' => ∃ v L, o = .returned v ∧ (own_Q_own_snap_3 Z o0 o1 o2 kb x0 x1 x2 h0 n0) v U'.heap L ∧ FrameEnd U o U' L ({ frames := 4, cells := 1, slots := 3, locals := 79 } : Room).cells ({ frames := 4, cells := 1, slots := 3, locals := 79 } : Room).slots) := by
  refine MetFree.of_bodySF (plainFor_of_name own_pn3) hisR ?_
  intro p e s m args below meth c s₁ Bd hml0 hP hK
  obtain ⟨rfl, hZ, hh⟩ := hP
  have hx := Bd.exec
  have hby := Bd.bytes
  have hml : c.maxLocals = 3 := hml0
  have hown : s.vm.findClass "com/example/nocord/nocord/model/Snapshot" = some m.cls := findClass_of_methodNamed Bd.named
  have hnm := (name_of_methodNamed Bd.named Bd.method).1
  have hlk : meth.locks = false := BodyLoose.notSynchronized Bd
  have X0 : Stand p l e ({ frames := 4, cells := 1, slots := 3, locals := 79 } : Room) s m #[(.ref o0), (.ref o1), (.ref o2)] below meth c s₁ [] 0 0 := Stand.of_body Bd
  have e0 : s₁.heap = h0 := by rw [← hh, Bd.state]; rfl
  have N0 := Fr.nil n0
  show own_Ends p e below s (own_Q_own_snap_3 Z o0 o1 o2 kb x0 x1 x2 h0 n0) ({ frames := 4, cells := 1, slots := 3, locals := 79 } : Room).cells ({ frames := 4, cells := 1, slots := 3, locals := 79 } : Room).slots _
  refine own_by (V := s₁.setTop (mkF m 0 #[.val (.ref o0), .val (.ref o1), .val (.ref o2)] [])) (fun t k => castTop (own_ef_own_snap_3 m o0 o1 o2) k) ?_
  refine own_by (V := s₁.setTop (mkF m 1 #[.val (.ref o0), .val (.ref o1), .val (.ref o2)] [(.ref o0)])) (fun t k => XS.aloadN X0.here hx rfl (hb hby own_d_prog_47_1_0) rfl rfl k) ?_
  obtain ⟨T1, X1, e1, st1⟩ := initO X0 hx hZ hown (hw _ (List.mem_of_getElem? (i := 20) rfl)) (hw _ (List.mem_of_getElem? (i := 11) rfl)) (hw _ (List.mem_of_getElem? (i := 12) rfl)) e0 (g := (mkF m 1 #[.val (.ref o0), .val (.ref o1), .val (.ref o2)] [(.ref o0)])) rfl (by rw [hml]; rfl) rfl (hb hby own_d_prog_47_1_1) (by decide) (W := 0) (by show 2 * 0 + _ ≤ _; exact Nat.le_of_eq rfl) (by decide)
  refine own_by (V := T1.setTop (mkF m 4 #[.val (.ref o0), .val (.ref o1), .val (.ref o2)] [])) st1 ?_
  refine own_by (V := T1.setTop (mkF m 5 #[.val (.ref o0), .val (.ref o1), .val (.ref o2)] [(.ref o2)])) (fun t k => XS.aloadN X1.here hx rfl (hb hby own_d_prog_47_1_4) rfl rfl k) ?_
  refine own_by (V := T1.setTop (mkF m 8 #[.val (.ref o0), .val (.ref o1), .val (.ref o2)] [])) (fun t k => XS.ifnullNo X1.here hx rfl (hb hby own_d_prog_47_1_5) rfl k) ?_
  refine own_by (V := T1.setTop (mkF m 9 #[.val (.ref o0), .val (.ref o1), .val (.ref o2)] [(.ref o2)])) (fun t k => XS.aloadN X1.here hx rfl (hb hby own_d_prog_47_1_8) rfl rfl k) ?_
  obtain ⟨cl2, Ar2, qa2, Sa2, Ma2, Ha2, Ua2⟩ := id A2
  have hl2 := len_of Sa2 Ma2
  refine own_by (V := T1.setTop (mkF m 10 #[.val (.ref o0), .val (.ref o1), .val (.ref o2)] [(.int (3 : Int32))])) (by have q := X1.arraylength hx (cell := cl2) (by rw [e1]; exact Ar2.1) (State.isArrayOf_alike hZ.alike Ar2.2.1) (g := (mkF m 9 #[.val (.ref o0), .val (.ref o1), .val (.ref o2)] [(.ref o2)])) rfl (rest := []) rfl (hb hby own_d_prog_47_1_9); rw [hl2] at q; exact q) ?_
  refine own_by (V := T1.setTop (mkF m 13 #[.val (.ref o0), .val (.ref o1), .val (.ref o2)] [(.int (10000 : Int32)), (.int (3 : Int32))])) (fun t k => XS.sipush X1.here hx rfl (hb hby own_d_prog_47_1_10) k) ?_
  have hb13_3 : ¬ ((10000 : Int32) < (3 : Int32)) := by decide
  refine own_by (V := T1.setTop (mkF m 31 #[.val (.ref o0), .val (.ref o1), .val (.ref o2)] [])) (fun t k => XS.icmpYes X1.here hx rfl (pc0 := 13) (pc' := 31) rfl (hb hby own_d_prog_47_1_13) rfl (flt hb13_3).2.2.2 (by decide) (by decide) k) ?_
  refine own_by (V := T1.setTop (mkF m 32 #[.val (.ref o0), .val (.ref o1), .val (.ref o2)] [(.ref o0)])) (fun t k => XS.aloadN X1.here hx rfl (hb hby own_d_prog_47_1_31) rfl rfl k) ?_
  refine own_by (V := T1.setTop (mkF m 33 #[.val (.ref o0), .val (.ref o1), .val (.ref o2)] [(.ref o1), (.ref o0)])) (fun t k => XS.aloadN X1.here hx rfl (hb hby own_d_prog_47_1_32) rfl rfl k) ?_
  obtain ⟨T4, h4, X4, e4, W4, st4⟩ := putF X1 hx hZ hown (host := "") (Or.inl (hw _ (List.mem_of_getElem? (i := 21) rfl))) Via.refl e1 Ft E0 (Or.inr ⟨(hw _ (List.mem_of_getElem? (i := 22) rfl)), rfl, hnm⟩) (hw _ (List.mem_of_getElem? (i := 2) rfl)) (ty := (.object "com/example/nocord/nocord/model/Timestamp")) (by decide) rfl rfl (g := (mkF m 33 #[.val (.ref o0), .val (.ref o1), .val (.ref o2)] [(.ref o1), (.ref o0)])) rfl rfl (hb hby own_d_prog_47_1_33)
  have N4 := Fr.snoc X4 N0 g0
  have K4 := (Keep.refl h0 [o0]).wr W4 (Or.inl (List.mem_of_getElem? (i := 0) rfl))
  have Zs4 : n0 ≤ h4.size := by rw [W4.size]; exact Z0
  have f5 := E0.wr W4
  have f6 := Ft.same W4
  have f7 := Fi.other W4 (Or.inr (slot_ne (Or.inr (hw _ (List.mem_of_getElem? (i := 33) rfl))) (Or.inr (hw _ (List.mem_of_getElem? (i := 22) rfl))) (by decide) (t := (.array .int)) (t' := (.object "com/example/nocord/nocord/model/Timestamp")) (by decide) (by decide)))
  have f8 := A2.other W4 hne
  have f9 := E2.wr W4
  refine own_by (V := T4.setTop (mkF m 36 #[.val (.ref o0), .val (.ref o1), .val (.ref o2)] [])) st4 ?_
  refine own_by (V := T4.setTop (mkF m 37 #[.val (.ref o0), .val (.ref o1), .val (.ref o2)] [(.ref o0)])) (fun t k => XS.aloadN X4.here hx rfl (hb hby own_d_prog_47_1_36) rfl rfl k) ?_
  refine own_by (V := T4.setTop (mkF m 38 #[.val (.ref o0), .val (.ref o1), .val (.ref o2)] [(.ref o2), (.ref o0)])) (fun t k => XS.aloadN X4.here hx rfl (hb hby own_d_prog_47_1_37) rfl rfl k) ?_
  refine own_by (V := T4.setTop (mkF m 41 #[.val (.ref o0), .val (.ref o1), .val (.ref o2)] [(.ref o0)])) (fun t k => XS.ifnullNo X4.here hx rfl (hb hby own_d_prog_47_1_38) rfl k) ?_
  refine own_by (V := T4.setTop (mkF m 42 #[.val (.ref o0), .val (.ref o1), .val (.ref o2)] [(.ref o2), (.ref o0)])) (fun t k => XS.aloadN X4.here hx rfl (hb hby own_d_prog_47_1_41) rfl rfl k) ?_
  obtain ⟨T10, h10, X10, e10, E10, A10, Ex10, st10⟩ := cloneH X4 hx hZ hown (hw _ (List.mem_of_getElem? (i := 23) rfl)) (hw _ (List.mem_of_getElem? (i := 24) rfl)) (hw _ (List.mem_of_getElem? (i := 28) rfl)) (hw _ (List.mem_of_getElem? (i := 26) rfl)) (hw _ (List.mem_of_getElem? (i := 27) rfl)) (hw _ (List.mem_of_getElem? (i := 29) rfl)) e4 (Arv.arh f8) f9 (g := (mkF m 42 #[.val (.ref o0), .val (.ref o1), .val (.ref o2)] [(.ref o2), (.ref o0)])) rfl (by rw [hml]; rfl) rfl (hb hby own_d_prog_47_1_42) (by decide) (W := 1) (by show 2 * 0 + _ ≤ _; exact Nat.le_of_eq rfl) (by decide) (cap := 3) (by decide) (by decide) (by decide)
  obtain ⟨b10, g10⟩ : ∃ z, z = h4.size := ⟨_, rfl⟩
  rw [← g10] at A10 Ex10 st10
  have kb10 : h0.size ≤ b10 := Nat.le_trans K4.1 (Nat.le_of_eq g10.symm)
  have ne11 : o0 ≠ b10 := Nat.ne_of_lt (Nat.lt_of_lt_of_le f5.lt (Nat.le_of_eq g10.symm))
  have ne12 : o2 ≠ b10 := Nat.ne_of_lt (Nat.lt_of_lt_of_le f8.lt (Nat.le_of_eq g10.symm))
  have f14 := f5.ext E10
  have f15 := f6.ext E10
  have f16 := f7.ext E10
  have f17 := f8.ext E10
  have f18 := f9.ext E10
  have K10 := K4.ext E10
  have V10 : Arv Z h10 b10 kb .int (3 : Int32) [(.int x0), (.int x1), (.int x2)] (.int (0 : Int32)) := A10
  have gn10 : n0 ≤ b10 := Nat.le_trans Zs4 (Nat.le_of_eq g10.symm)
  have Zs10 : n0 ≤ h10.size := Nat.le_trans Zs4 E10.1
  refine own_by (V := T10.setTop (mkF m 45 #[.val (.ref o0), .val (.ref o1), .val (.ref o2)] [(.ref b10), (.ref o0)])) st10 ?_
  obtain ⟨T24, X24, e24, st24⟩ := castY X10 hx hZ hown (hw _ (List.mem_of_getElem? (i := 30) rfl)) e10 (Ins.self Ex10) (g := (mkF m 45 #[.val (.ref o0), .val (.ref o1), .val (.ref o2)] [(.ref b10), (.ref o0)])) rfl rfl (hb hby own_d_prog_47_1_45)
  refine own_by (V := T24.setTop (mkF m 48 #[.val (.ref o0), .val (.ref o1), .val (.ref o2)] [(.ref b10), (.ref o0)])) st24 ?_
  refine own_by (V := T24.setTop (mkF m 52 #[.val (.ref o0), .val (.ref o1), .val (.ref o2)] [(.ref b10), (.ref o0)])) (fun t k => XS.goto X24.here hx rfl (pc0 := 48) (pc' := 52) rfl (hb hby own_d_prog_47_1_48) (by decide) (by decide) k) ?_
  obtain ⟨T25, h25, X25, e25, W25, st25⟩ := putF X24 hx hZ hown (host := "") (Or.inl (hw _ (List.mem_of_getElem? (i := 32) rfl))) Via.refl e24 f16 f14 (Or.inr ⟨(hw _ (List.mem_of_getElem? (i := 33) rfl)), rfl, hnm⟩) (hw _ (List.mem_of_getElem? (i := 2) rfl)) (ty := (.array .int)) (by decide) rfl rfl (g := (mkF m 52 #[.val (.ref o0), .val (.ref o1), .val (.ref o2)] [(.ref b10), (.ref o0)])) rfl rfl (hb hby own_d_prog_47_1_52)
  have N25 := Fr.snoc X25 N4 g0
  have K25 := K10.wr W25 (Or.inl (List.mem_of_getElem? (i := 0) rfl))
  have Zs25 : n0 ≤ h25.size := by rw [W25.size]; exact Zs10
  have f26 := f14.wr W25
  have f27 := f15.other W25 (Or.inr (slot_ne (Or.inr (hw _ (List.mem_of_getElem? (i := 22) rfl))) (Or.inr (hw _ (List.mem_of_getElem? (i := 33) rfl))) (by decide) (t := (.object "com/example/nocord/nocord/model/Timestamp")) (t' := (.array .int)) (by decide) (by decide)))
  have f28 := f16.same W25
  have f29 := f17.other W25 hne
  have f30 := f18.wr W25
  have f31 := V10.other W25 (Ne.symm ne11)
  have f32 := Ex10.wr W25
  refine own_by (V := T25.setTop (mkF m 55 #[.val (.ref o0), .val (.ref o1), .val (.ref o2)] [])) st25 ?_
  refine own_by (V := T25.setTop (mkF m 56 #[.val (.ref o0), .val (.ref o1), .val (.ref o2)] [(.ref o0)])) (fun t k => XS.aloadN X25.here hx rfl (hb hby own_d_prog_47_1_55) rfl rfl k) ?_
  obtain ⟨T33, X33, e33, st33⟩ := getF X25 hx hZ hown (host := "") (Or.inl (hw _ (List.mem_of_getElem? (i := 32) rfl))) Via.refl e25 f28 (g := (mkF m 56 #[.val (.ref o0), .val (.ref o1), .val (.ref o2)] [(.ref o0)])) rfl rfl (hb hby own_d_prog_47_1_56)
  refine own_by (V := T33.setTop (mkF m 59 #[.val (.ref o0), .val (.ref o1), .val (.ref o2)] [(.ref b10)])) st33 ?_
  refine own_by (V := T33.setTop (mkF m 62 #[.val (.ref o0), .val (.ref o1), .val (.ref o2)] [])) (fun t k => XS.ifnullNo X33.here hx rfl (hb hby own_d_prog_47_1_59) rfl k) ?_
  refine own_by (V := T33.setTop (mkF m 63 #[.val (.ref o0), .val (.ref o1), .val (.ref o2)] [(.ref o0)])) (fun t k => XS.aloadN X33.here hx rfl (hb hby own_d_prog_47_1_62) rfl rfl k) ?_
  obtain ⟨T34, X34, e34, st34⟩ := getF X33 hx hZ hown (host := "") (Or.inl (hw _ (List.mem_of_getElem? (i := 32) rfl))) Via.refl e33 f28 (g := (mkF m 63 #[.val (.ref o0), .val (.ref o1), .val (.ref o2)] [(.ref o0)])) rfl rfl (hb hby own_d_prog_47_1_63)
  refine own_by (V := T34.setTop (mkF m 66 #[.val (.ref o0), .val (.ref o1), .val (.ref o2)] [(.ref b10)])) st34 ?_
  obtain ⟨_, _, ⟨T35, Lq35, kq35, nq35⟩, -, X35, ⟨Lc35, hQ35, lq35, yq35, zq35⟩, st35⟩ := Jvm.LawKit.callS X34 hx (y := (⟨"java/util/Arrays", "sort", "([I)V"⟩ : MethodName)) hown (mvT hZ (hw _ (List.mem_of_getElem? (i := 34) rfl))) (mvT hZ (hw _ (List.mem_of_getElem? (i := 35) rfl))) (mvT hZ (hw _ (List.mem_of_getElem? (i := 36) rfl))) (mvT hZ (hw _ (List.mem_of_getElem? (i := 37) rfl))) (by decide) (backOf (W := 0) (own_sort_3 l Z a0 hw [] b10 kb x0 x1 x2 h25 n0 Zs25 f31 gn10) hZ (hw _ (List.mem_of_getElem? (i := 37) rfl)) (hw _ (List.mem_of_getElem? (i := 36) rfl)) (by decide) (by decide)) (g := (mkF m 66 #[.val (.ref o0), .val (.ref o1), .val (.ref o2)] [(.ref b10)])) rfl (by rw [hml]; rfl) (argsL := [(.ref b10)]) (rest := []) (lenOf own_pd3 rfl) rfl (by show 2 * 0 + _ ≤ _; exact Nat.le_of_eq rfl) (hb hby own_d_prog_47_1_66) (fun _ _ => ⟨rfl, e34, (by decide : 1 + 0 ≤ _), (by decide : 3 + 0 ≤ _)⟩)
  dsimp only [Pt.U, Pt.locs, Pt.cells, Pt.slots] at X35 lq35 yq35 zq35 st35 hQ35
  subst lq35 yq35 zq35
  obtain ⟨rfl, N35q, Kc35, g35_0⟩ := hQ35
  have N35 := Fr.app N25 N35q
  have f36 := f26.keep Kc35
  have f37 := f27.keep Kc35 (ninS ne11 nin0)
  have f38 := f28.keep Kc35 (ninS ne11 nin0)
  have f39 := f29.keep Kc35 (ninS ne12 nin0)
  have f40 := f30.keep Kc35
  have f42 := f32.keep Kc35
  have K35 := K25.trans Kc35 (allS (Or.inr kb10) all0)
  have Zs35 : n0 ≤ T35.heap.size := Nat.le_trans Zs25 Kc35.1
  refine own_by (V := T35.setTop (mkF m 69 #[.val (.ref o0), .val (.ref o1), .val (.ref o2)] [])) st35 ?_
  refine own_ret0 X35 hx hlk rfl Bd.returns (hb hby own_d_prog_47_1_69) ?_ (by decide) (by decide)
  exact ⟨b10, rfl, N35, K35, (kb10), f36, f37, f38, g35_0, f42⟩
def own_Q_own_hash_3 (Z : State) (o0 : Addr) (b : Addr) (kb : ClassId) (y0 : Int32) (y1 : Int32) (y2 : Int32) (h0 : Heap) (n0 : Nat) : Option Value → Heap → List Loc → Prop := fun v h L => ∃ (r : Addr), v = some (.ref r) ∧ Fr n0 L ∧ Keep h0 h [] ∧ h0.size ≤ r ∧ Arv Z h r kb .int (3 : Int32) [(.int y0), (.int y1), (.int y2)] (.int (0 : Int32)) ∧ Exa Z h r "[I"
theorem own_ef_own_hash_3 (m : MethodId) (x0 : Addr) : entryFrame m #[(.ref x0)] 1 = mkF m 0 #[.val (.ref x0)] [] := by first | (simp [entryFrame, mkF, argsToLocals, Value.category]; done) | rfl
set_option maxRecDepth 65536 in
set_option maxHeartbeats 40000000 in
theorem own_hash_3 (l : Launch) (Z : State) (a0 : Array Value) (hw : ∀ d ∈ tables_1, d.before a0 Z = true) (ws : List Jvm.Cond) (o0 : Addr) (b : Addr) (kb : ClassId) (y0 : Int32) (y1 : Int32) (y2 : Int32) (h0 : Heap) (n0 : Nat) (Z0 : n0 ≤ h0.size) (Fi : Fld Z h0 o0 "com/example/nocord/nocord/model/Snapshot" "installing" "[I" (.ref b)) (Ab : Arv Z h0 b kb .int (3 : Int32) [(.int y0), (.int y1), (.int y2)] (.int (0 : Int32))) (Eb : Exa Z h0 b "[I") :
    MetFree l (⟨"com/example/nocord/nocord/model/Snapshot", "installingHashes", "()[I"⟩ : MethodName) (head1 (Jvm.Cond.code (⟨"com/example/nocord/nocord/model/Snapshot", "installingHashes", "()[I"⟩ : MethodName) prog_47_method_3_code 1 (some (.array .int)) :: ws) ({ frames := 1, cells := 1, slots := 3, locals := 14 } : Room)) (fun a U => a = #[(.ref o0)] ∧ Z.Warmed39 U.vm ∧ U.heap = h0) (fun _ _ _ _ _ => True) (fun _ U o U' => ∃ v L, o = .returned v ∧ (own_Q_own_hash_3 Z o0 b kb y0 y1 y2 h0 n0) v U'.heap L ∧ FrameEnd U o U' L ({ frames := 1, cells := 1, slots := 3, locals := 14 } : Room).cells ({ frames := 1, cells := 1, slots := 3, locals := 14 } : Room).slots) := by
  refine MetFree.of_bodySF (plainFor_of_name own_pn3) hisR ?_
  intro p e s m args below meth c s₁ Bd hml0 hP hK
  obtain ⟨rfl, hZ, hh⟩ := hP
  have hx := Bd.exec
  have hby := Bd.bytes
  have hml : c.maxLocals = 1 := hml0
  have hown : s.vm.findClass "com/example/nocord/nocord/model/Snapshot" = some m.cls := findClass_of_methodNamed Bd.named
  have hnm := (name_of_methodNamed Bd.named Bd.method).1
  have hlk : meth.locks = false := BodyLoose.notSynchronized Bd
  have X0 : Stand p l e ({ frames := 1, cells := 1, slots := 3, locals := 14 } : Room) s m #[(.ref o0)] below meth c s₁ [] 0 0 := Stand.of_body Bd
  have e0 : s₁.heap = h0 := by rw [← hh, Bd.state]; rfl
  have N0 := Fr.nil n0
  show own_Ends p e below s (own_Q_own_hash_3 Z o0 b kb y0 y1 y2 h0 n0) ({ frames := 1, cells := 1, slots := 3, locals := 14 } : Room).cells ({ frames := 1, cells := 1, slots := 3, locals := 14 } : Room).slots _
  refine own_by (V := s₁.setTop (mkF m 0 #[.val (.ref o0)] [])) (fun t k => castTop (own_ef_own_hash_3 m o0) k) ?_
  refine own_by (V := s₁.setTop (mkF m 1 #[.val (.ref o0)] [(.ref o0)])) (fun t k => XS.aloadN X0.here hx rfl (hb hby own_d_prog_47_3_0) rfl rfl k) ?_
  obtain ⟨T1, X1, e1, st1⟩ := getF X0 hx hZ hown (host := "") (Or.inl (hw _ (List.mem_of_getElem? (i := 32) rfl))) Via.refl e0 Fi (g := (mkF m 1 #[.val (.ref o0)] [(.ref o0)])) rfl rfl (hb hby own_d_prog_47_3_1)
  refine own_by (V := T1.setTop (mkF m 4 #[.val (.ref o0)] [(.ref b)])) st1 ?_
  refine own_by (V := T1.setTop (mkF m 7 #[.val (.ref o0)] [])) (fun t k => XS.ifnullNo X1.here hx rfl (hb hby own_d_prog_47_3_4) rfl k) ?_
  refine own_by (V := T1.setTop (mkF m 8 #[.val (.ref o0)] [(.ref o0)])) (fun t k => XS.aloadN X1.here hx rfl (hb hby own_d_prog_47_3_7) rfl rfl k) ?_
  obtain ⟨T2, X2, e2, st2⟩ := getF X1 hx hZ hown (host := "") (Or.inl (hw _ (List.mem_of_getElem? (i := 32) rfl))) Via.refl e1 Fi (g := (mkF m 8 #[.val (.ref o0)] [(.ref o0)])) rfl rfl (hb hby own_d_prog_47_3_8)
  refine own_by (V := T2.setTop (mkF m 11 #[.val (.ref o0)] [(.ref b)])) st2 ?_
  obtain ⟨T3, h3, X3, e3, E3, A3, Ex3, st3⟩ := cloneH X2 hx hZ hown (hw _ (List.mem_of_getElem? (i := 23) rfl)) (hw _ (List.mem_of_getElem? (i := 24) rfl)) (hw _ (List.mem_of_getElem? (i := 28) rfl)) (hw _ (List.mem_of_getElem? (i := 26) rfl)) (hw _ (List.mem_of_getElem? (i := 27) rfl)) (hw _ (List.mem_of_getElem? (i := 29) rfl)) e2 (Arv.arh Ab) Eb (g := (mkF m 11 #[.val (.ref o0)] [(.ref b)])) rfl (by rw [hml]; rfl) rfl (hb hby own_d_prog_47_3_11) (by decide) (W := 0) (by show 2 * 0 + _ ≤ _; exact Nat.le_of_eq rfl) (by decide) (cap := 3) (by decide) (by decide) (by decide)
  obtain ⟨b3, g3⟩ : ∃ z, z = h0.size := ⟨_, rfl⟩
  rw [← g3] at A3 Ex3 st3
  have kb3 : h0.size ≤ b3 := Nat.le_trans (Keep.refl h0 []).1 (Nat.le_of_eq g3.symm)
  have ne4 : o0 ≠ b3 := Nat.ne_of_lt (Nat.lt_of_lt_of_le Fi.lt (Nat.le_of_eq g3.symm))
  have ne5 : b ≠ b3 := Nat.ne_of_lt (Nat.lt_of_lt_of_le Ab.lt (Nat.le_of_eq g3.symm))
  have f6 := Fi.ext E3
  have f7 := Ab.ext E3
  have f8 := Eb.ext E3
  have K3 := (Keep.refl h0 []).ext E3
  have V3 : Arv Z h3 b3 kb .int (3 : Int32) [(.int y0), (.int y1), (.int y2)] (.int (0 : Int32)) := A3
  have gn3 : n0 ≤ b3 := Nat.le_trans Z0 (Nat.le_of_eq g3.symm)
  have Zs3 : n0 ≤ h3.size := Nat.le_trans Z0 E3.1
  refine own_by (V := T3.setTop (mkF m 14 #[.val (.ref o0)] [(.ref b3)])) st3 ?_
  obtain ⟨T12, X12, e12, st12⟩ := castY X3 hx hZ hown (hw _ (List.mem_of_getElem? (i := 30) rfl)) e3 (Ins.self Ex3) (g := (mkF m 14 #[.val (.ref o0)] [(.ref b3)])) rfl rfl (hb hby own_d_prog_47_3_14)
  refine own_by (V := T12.setTop (mkF m 17 #[.val (.ref o0)] [(.ref b3)])) st12 ?_
  refine own_by (V := T12.setTop (mkF m 21 #[.val (.ref o0)] [(.ref b3)])) (fun t k => XS.goto X12.here hx rfl (pc0 := 17) (pc' := 21) rfl (hb hby own_d_prog_47_3_17) (by decide) (by decide) k) ?_
  refine own_retA X12 hx hlk e12 (w := (.ref b3)) rfl Bd.returns rfl (hb hby own_d_prog_47_3_21) ?_ (by decide) (by decide)
  exact ⟨b3, rfl, N0, K3, (kb3), V3, Ex3⟩
def own_Q_own_match_3 (Z : State) (o0 : Addr) (p2 : Int32) (p3 : Int32) (p4 : Int32) (kb : ClassId) (h0 : Heap) (n0 : Nat) : Option Value → Heap → List Loc → Prop := fun v h L => v = some (.int (1 : Int32)) ∧ Fr n0 L ∧ h = h0
theorem own_ef_own_match_3 (m : MethodId) (x0 : Addr) (x2 : Int32) (x3 : Int32) (x4 : Int32) : entryFrame m #[(.ref x0), (.int (3 : Int32)), (.int x2), (.int x3), (.int x4)] 8 = mkF m 0 #[.val (.ref x0), .val (.int (3 : Int32)), .val (.int x2), .val (.int x3), .val (.int x4), .unset, .unset, .unset] [] := by first | (simp [entryFrame, mkF, argsToLocals, Value.category]; done) | rfl
set_option maxRecDepth 65536 in
set_option maxHeartbeats 40000000 in
theorem own_match_3 (l : Launch) (Z : State) (a0 : Array Value) (hw : ∀ d ∈ tables_1, d.before a0 Z = true) (ws : List Jvm.Cond) (o0 : Addr) (p2 : Int32) (p3 : Int32) (p4 : Int32) (kb : ClassId) (h0 : Heap) (n0 : Nat) (A0 : Arv Z h0 o0 kb .int (3 : Int32) [(.int (own_min (own_min p2 p3) p4)), (.int (own_max (own_min p2 p3) (own_min (own_max p2 p3) p4))), (.int (own_max (own_max p2 p3) p4))] (.int (0 : Int32))) :
    MetFree l (⟨"com/example/nocord/nocord/model/SnapshotInstallingHashesPinLaw", "matches", "([IIIII)Z"⟩ : MethodName) (head1 (Jvm.Cond.code (⟨"com/example/nocord/nocord/model/SnapshotInstallingHashesPinLaw", "matches", "([IIIII)Z"⟩ : MethodName) method_2_code 8 (some .boolean) :: ws) ({ frames := 1, cells := 0, slots := 0, locals := 14 } : Room)) (fun a U => a = #[(.ref o0), (.int (3 : Int32)), (.int p2), (.int p3), (.int p4)] ∧ Z.Warmed39 U.vm ∧ U.heap = h0) (fun _ _ _ _ _ => True) (fun _ U o U' => ∃ v L, o = .returned v ∧ (own_Q_own_match_3 Z o0 p2 p3 p4 kb h0 n0) v U'.heap L ∧ FrameEnd U o U' L ({ frames := 1, cells := 0, slots := 0, locals := 14 } : Room).cells ({ frames := 1, cells := 0, slots := 0, locals := 14 } : Room).slots) := by
  refine MetFree.of_bodySF (plainFor_of_name own_pn4) hisR ?_
  intro p e s m args below meth c s₁ Bd hml0 hP hK
  obtain ⟨rfl, hZ, hh⟩ := hP
  have hx := Bd.exec
  have hby := Bd.bytes
  have hml : c.maxLocals = 8 := hml0
  have hown : s.vm.findClass "com/example/nocord/nocord/model/SnapshotInstallingHashesPinLaw" = some m.cls := findClass_of_methodNamed Bd.named
  have hnm := (name_of_methodNamed Bd.named Bd.method).1
  have hlk : meth.locks = false := BodyLoose.notSynchronized Bd
  have X0 : Stand p l e ({ frames := 1, cells := 0, slots := 0, locals := 14 } : Room) s m #[(.ref o0), (.int (3 : Int32)), (.int p2), (.int p3), (.int p4)] below meth c s₁ [] 0 0 := Stand.of_body Bd
  have e0 : s₁.heap = h0 := by rw [← hh, Bd.state]; rfl
  have N0 := Fr.nil n0
  show own_Ends p e below s (own_Q_own_match_3 Z o0 p2 p3 p4 kb h0 n0) ({ frames := 1, cells := 0, slots := 0, locals := 14 } : Room).cells ({ frames := 1, cells := 0, slots := 0, locals := 14 } : Room).slots _
  refine own_by (V := s₁.setTop (mkF m 0 #[.val (.ref o0), .val (.int (3 : Int32)), .val (.int p2), .val (.int p3), .val (.int p4), .unset, .unset, .unset] [])) (fun t k => castTop (own_ef_own_match_3 m o0 p2 p3 p4) k) ?_
  refine own_by (V := s₁.setTop (mkF m 1 #[.val (.ref o0), .val (.int (3 : Int32)), .val (.int p2), .val (.int p3), .val (.int p4), .unset, .unset, .unset] [(.ref o0)])) (fun t k => XS.aloadN X0.here hx rfl (hb hby own_d_method_2_0) rfl rfl k) ?_
  refine own_by (V := s₁.setTop (mkF m 4 #[.val (.ref o0), .val (.int (3 : Int32)), .val (.int p2), .val (.int p3), .val (.int p4), .unset, .unset, .unset] [])) (fun t k => XS.ifnullNo X0.here hx rfl (hb hby own_d_method_2_1) rfl k) ?_
  refine own_by (V := s₁.setTop (mkF m 5 #[.val (.ref o0), .val (.int (3 : Int32)), .val (.int p2), .val (.int p3), .val (.int p4), .unset, .unset, .unset] [(.ref o0)])) (fun t k => XS.aloadN X0.here hx rfl (hb hby own_d_method_2_4) rfl rfl k) ?_
  obtain ⟨cl1, Ar1, qa1, Sa1, Ma1, Ha1, Ua1⟩ := id A0
  have hl1 := len_of Sa1 Ma1
  refine own_by (V := s₁.setTop (mkF m 6 #[.val (.ref o0), .val (.int (3 : Int32)), .val (.int p2), .val (.int p3), .val (.int p4), .unset, .unset, .unset] [(.int (3 : Int32))])) (by have q := X0.arraylength hx (cell := cl1) (by rw [e0]; exact Ar1.1) (State.isArrayOf_alike hZ.alike Ar1.2.1) (g := (mkF m 5 #[.val (.ref o0), .val (.int (3 : Int32)), .val (.int p2), .val (.int p3), .val (.int p4), .unset, .unset, .unset] [(.ref o0)])) rfl (rest := []) rfl (hb hby own_d_method_2_5); rw [hl1] at q; exact q) ?_
  refine own_by (V := s₁.setTop (mkF m 7 #[.val (.ref o0), .val (.int (3 : Int32)), .val (.int p2), .val (.int p3), .val (.int p4), .unset, .unset, .unset] [(.int (3 : Int32)), (.int (3 : Int32))])) (fun t k => XS.iloadN X0.here hx rfl (hb hby own_d_method_2_6) rfl  k) ?_
  have hb7_2 : ((3 : Int32) = (3 : Int32)) := rfl
  refine own_by (V := s₁.setTop (mkF m 12 #[.val (.ref o0), .val (.int (3 : Int32)), .val (.int p2), .val (.int p3), .val (.int p4), .unset, .unset, .unset] [])) (fun t k => XS.icmpYes X0.here hx rfl (pc0 := 7) (pc' := 12) rfl (hb hby own_d_method_2_7) rfl (teq hb7_2).1 (by decide) (by decide) k) ?_
  refine own_by (V := s₁.setTop (mkF m 13 #[.val (.ref o0), .val (.int (3 : Int32)), .val (.int p2), .val (.int p3), .val (.int p4), .unset, .unset, .unset] [(.int (3 : Int32))])) (fun t k => XS.iloadN X0.here hx rfl (hb hby own_d_method_2_12) rfl  k) ?_
  have hb13_3 : ¬ ((3 : Int32) = (0 : Int32)) := by decide
  refine own_by (V := s₁.setTop (mkF m 18 #[.val (.ref o0), .val (.int (3 : Int32)), .val (.int p2), .val (.int p3), .val (.int p4), .unset, .unset, .unset] [])) (fun t k => XS.ifYes X0.here hx rfl (pc0 := 13) (pc' := 18) rfl (hb hby own_d_method_2_13) rfl ((if0 _ _).trans (feq hb13_3).2) (by decide) (by decide) k) ?_
  refine own_by (V := s₁.setTop (mkF m 19 #[.val (.ref o0), .val (.int (3 : Int32)), .val (.int p2), .val (.int p3), .val (.int p4), .unset, .unset, .unset] [(.int (3 : Int32))])) (fun t k => XS.iloadN X0.here hx rfl (hb hby own_d_method_2_18) rfl  k) ?_
  refine own_by (V := s₁.setTop (mkF m 20 #[.val (.ref o0), .val (.int (3 : Int32)), .val (.int p2), .val (.int p3), .val (.int p4), .unset, .unset, .unset] [(.int (1 : Int32)), (.int (3 : Int32))])) (fun t k => XS.iconst X0.here hx rfl (hb hby own_d_method_2_19) k) ?_
  have hb20_4 : ¬ ((3 : Int32) = (1 : Int32)) := by decide
  refine own_by (V := s₁.setTop (mkF m 36 #[.val (.ref o0), .val (.int (3 : Int32)), .val (.int p2), .val (.int p3), .val (.int p4), .unset, .unset, .unset] [])) (fun t k => XS.icmpYes X0.here hx rfl (pc0 := 20) (pc' := 36) rfl (hb hby own_d_method_2_20) rfl (feq hb20_4).2 (by decide) (by decide) k) ?_
  refine own_by (V := s₁.setTop (mkF m 37 #[.val (.ref o0), .val (.int (3 : Int32)), .val (.int p2), .val (.int p3), .val (.int p4), .unset, .unset, .unset] [(.int (3 : Int32))])) (fun t k => XS.iloadN X0.here hx rfl (hb hby own_d_method_2_36) rfl  k) ?_
  refine own_by (V := s₁.setTop (mkF m 38 #[.val (.ref o0), .val (.int (3 : Int32)), .val (.int p2), .val (.int p3), .val (.int p4), .unset, .unset, .unset] [(.int (2 : Int32)), (.int (3 : Int32))])) (fun t k => XS.iconst X0.here hx rfl (hb hby own_d_method_2_37) k) ?_
  have hb38_5 : ¬ ((3 : Int32) = (2 : Int32)) := by decide
  refine own_by (V := s₁.setTop (mkF m 69 #[.val (.ref o0), .val (.int (3 : Int32)), .val (.int p2), .val (.int p3), .val (.int p4), .unset, .unset, .unset] [])) (fun t k => XS.icmpYes X0.here hx rfl (pc0 := 38) (pc' := 69) rfl (hb hby own_d_method_2_38) rfl (feq hb38_5).2 (by decide) (by decide) k) ?_
  refine own_by (V := s₁.setTop (mkF m 70 #[.val (.ref o0), .val (.int (3 : Int32)), .val (.int p2), .val (.int p3), .val (.int p4), .unset, .unset, .unset] [(.int p2)])) (fun t k => XS.iloadN X0.here hx rfl (hb hby own_d_method_2_69) rfl  k) ?_
  refine own_by (V := s₁.setTop (mkF m 71 #[.val (.ref o0), .val (.int (3 : Int32)), .val (.int p2), .val (.int p3), .val (.int p4), .unset, .unset, .unset] [(.int p3), (.int p2)])) (fun t k => XS.iloadN X0.here hx rfl (hb hby own_d_method_2_70) rfl  k) ?_
  obtain ⟨_, _, ⟨T6, Lq6, kq6, nq6⟩, -, X6, ⟨Lc6, hQ6, lq6, yq6, zq6⟩, st6⟩ := Jvm.LawKit.callS X0 hx (y := (⟨"java/lang/Math", "min", "(II)I"⟩ : MethodName)) hown (mvT hZ (hw _ (List.mem_of_getElem? (i := 57) rfl))) (mvT hZ (hw _ (List.mem_of_getElem? (i := 58) rfl))) (mvT hZ (hw _ (List.mem_of_getElem? (i := 59) rfl))) (mvT hZ (hw _ (List.mem_of_getElem? (i := 60) rfl))) (by decide) (backOf (W := 0) (own_rmin l Z a0 hw [] p2 p3 h0 n0) hZ (hw _ (List.mem_of_getElem? (i := 60) rfl)) (hw _ (List.mem_of_getElem? (i := 59) rfl)) (by decide) (by decide)) (g := (mkF m 71 #[.val (.ref o0), .val (.int (3 : Int32)), .val (.int p2), .val (.int p3), .val (.int p4), .unset, .unset, .unset] [(.int p3), (.int p2)])) rfl (by rw [hml]; rfl) (argsL := [(.int p2), (.int p3)]) (rest := []) (lenOf own_pd4 rfl) rfl (by show 2 * 0 + _ ≤ _; exact Nat.le_of_eq rfl) (hb hby own_d_method_2_71) (fun _ _ => ⟨rfl, e0, (by decide : 0 + 0 ≤ _), (by decide : 0 + 0 ≤ _)⟩)
  dsimp only [Pt.U, Pt.locs, Pt.cells, Pt.slots] at X6 lq6 yq6 zq6 st6 hQ6
  subst lq6 yq6 zq6
  obtain ⟨rfl, N6q, e6⟩ := hQ6
  have N6 := Fr.app N0 N6q
  refine own_by (V := T6.setTop (mkF m 74 #[.val (.ref o0), .val (.int (3 : Int32)), .val (.int p2), .val (.int p3), .val (.int p4), .unset, .unset, .unset] [(.int (own_min p2 p3))])) st6 ?_
  refine own_by (V := T6.setTop (mkF m 76 #[.val (.ref o0), .val (.int (3 : Int32)), .val (.int p2), .val (.int p3), .val (.int p4), .unset, .unset, .unset] [(.int p4), (.int (own_min p2 p3))])) (fun t k => XS.iload X6.here hx rfl (hb hby own_d_method_2_74) rfl  k) ?_
  obtain ⟨_, _, ⟨T7, Lq7, kq7, nq7⟩, -, X7, ⟨Lc7, hQ7, lq7, yq7, zq7⟩, st7⟩ := Jvm.LawKit.callS X6 hx (y := (⟨"java/lang/Math", "min", "(II)I"⟩ : MethodName)) hown (mvT hZ (hw _ (List.mem_of_getElem? (i := 57) rfl))) (mvT hZ (hw _ (List.mem_of_getElem? (i := 58) rfl))) (mvT hZ (hw _ (List.mem_of_getElem? (i := 59) rfl))) (mvT hZ (hw _ (List.mem_of_getElem? (i := 60) rfl))) (by decide) (backOf (W := 0) (own_rmin l Z a0 hw [] (own_min p2 p3) p4 h0 n0) hZ (hw _ (List.mem_of_getElem? (i := 60) rfl)) (hw _ (List.mem_of_getElem? (i := 59) rfl)) (by decide) (by decide)) (g := (mkF m 76 #[.val (.ref o0), .val (.int (3 : Int32)), .val (.int p2), .val (.int p3), .val (.int p4), .unset, .unset, .unset] [(.int p4), (.int (own_min p2 p3))])) rfl (by rw [hml]; rfl) (argsL := [(.int (own_min p2 p3)), (.int p4)]) (rest := []) (lenOf own_pd4 rfl) rfl (by show 2 * 0 + _ ≤ _; exact Nat.le_of_eq rfl) (hb hby own_d_method_2_76) (fun _ _ => ⟨rfl, e6, (by decide : 0 + 0 ≤ _), (by decide : 0 + 0 ≤ _)⟩)
  dsimp only [Pt.U, Pt.locs, Pt.cells, Pt.slots] at X7 lq7 yq7 zq7 st7 hQ7
  subst lq7 yq7 zq7
  obtain ⟨rfl, N7q, e7⟩ := hQ7
  have N7 := Fr.app N6 N7q
  refine own_by (V := T7.setTop (mkF m 79 #[.val (.ref o0), .val (.int (3 : Int32)), .val (.int p2), .val (.int p3), .val (.int p4), .unset, .unset, .unset] [(.int (own_min (own_min p2 p3) p4))])) st7 ?_
  refine own_by (V := T7.setTop (mkF m 81 #[.val (.ref o0), .val (.int (3 : Int32)), .val (.int p2), .val (.int p3), .val (.int p4), .val (.int (own_min (own_min p2 p3) p4)), .unset, .unset] [])) (fun t k => XS.istore X7.here hx rfl (hb hby own_d_method_2_79) rfl (l' := #[.val (.ref o0), .val (.int (3 : Int32)), .val (.int p2), .val (.int p3), .val (.int p4), .val (.int (own_min (own_min p2 p3) p4)), .unset, .unset]) rfl k) ?_
  refine own_by (V := T7.setTop (mkF m 82 #[.val (.ref o0), .val (.int (3 : Int32)), .val (.int p2), .val (.int p3), .val (.int p4), .val (.int (own_min (own_min p2 p3) p4)), .unset, .unset] [(.int p2)])) (fun t k => XS.iloadN X7.here hx rfl (hb hby own_d_method_2_81) rfl  k) ?_
  refine own_by (V := T7.setTop (mkF m 83 #[.val (.ref o0), .val (.int (3 : Int32)), .val (.int p2), .val (.int p3), .val (.int p4), .val (.int (own_min (own_min p2 p3) p4)), .unset, .unset] [(.int p3), (.int p2)])) (fun t k => XS.iloadN X7.here hx rfl (hb hby own_d_method_2_82) rfl  k) ?_
  obtain ⟨_, _, ⟨T8, Lq8, kq8, nq8⟩, -, X8, ⟨Lc8, hQ8, lq8, yq8, zq8⟩, st8⟩ := Jvm.LawKit.callS X7 hx (y := (⟨"java/lang/Math", "max", "(II)I"⟩ : MethodName)) hown (mvT hZ (hw _ (List.mem_of_getElem? (i := 61) rfl))) (mvT hZ (hw _ (List.mem_of_getElem? (i := 62) rfl))) (mvT hZ (hw _ (List.mem_of_getElem? (i := 59) rfl))) (mvT hZ (hw _ (List.mem_of_getElem? (i := 63) rfl))) (by decide) (backOf (W := 0) (own_rmax l Z a0 hw [] p2 p3 h0 n0) hZ (hw _ (List.mem_of_getElem? (i := 63) rfl)) (hw _ (List.mem_of_getElem? (i := 59) rfl)) (by decide) (by decide)) (g := (mkF m 83 #[.val (.ref o0), .val (.int (3 : Int32)), .val (.int p2), .val (.int p3), .val (.int p4), .val (.int (own_min (own_min p2 p3) p4)), .unset, .unset] [(.int p3), (.int p2)])) rfl (by rw [hml]; rfl) (argsL := [(.int p2), (.int p3)]) (rest := []) (lenOf own_pd4 rfl) rfl (by show 2 * 0 + _ ≤ _; exact Nat.le_of_eq rfl) (hb hby own_d_method_2_83) (fun _ _ => ⟨rfl, e7, (by decide : 0 + 0 ≤ _), (by decide : 0 + 0 ≤ _)⟩)
  dsimp only [Pt.U, Pt.locs, Pt.cells, Pt.slots] at X8 lq8 yq8 zq8 st8 hQ8
  subst lq8 yq8 zq8
  obtain ⟨rfl, N8q, e8⟩ := hQ8
  have N8 := Fr.app N7 N8q
  refine own_by (V := T8.setTop (mkF m 86 #[.val (.ref o0), .val (.int (3 : Int32)), .val (.int p2), .val (.int p3), .val (.int p4), .val (.int (own_min (own_min p2 p3) p4)), .unset, .unset] [(.int (own_max p2 p3))])) st8 ?_
  refine own_by (V := T8.setTop (mkF m 88 #[.val (.ref o0), .val (.int (3 : Int32)), .val (.int p2), .val (.int p3), .val (.int p4), .val (.int (own_min (own_min p2 p3) p4)), .unset, .unset] [(.int p4), (.int (own_max p2 p3))])) (fun t k => XS.iload X8.here hx rfl (hb hby own_d_method_2_86) rfl  k) ?_
  obtain ⟨_, _, ⟨T9, Lq9, kq9, nq9⟩, -, X9, ⟨Lc9, hQ9, lq9, yq9, zq9⟩, st9⟩ := Jvm.LawKit.callS X8 hx (y := (⟨"java/lang/Math", "max", "(II)I"⟩ : MethodName)) hown (mvT hZ (hw _ (List.mem_of_getElem? (i := 61) rfl))) (mvT hZ (hw _ (List.mem_of_getElem? (i := 62) rfl))) (mvT hZ (hw _ (List.mem_of_getElem? (i := 59) rfl))) (mvT hZ (hw _ (List.mem_of_getElem? (i := 63) rfl))) (by decide) (backOf (W := 0) (own_rmax l Z a0 hw [] (own_max p2 p3) p4 h0 n0) hZ (hw _ (List.mem_of_getElem? (i := 63) rfl)) (hw _ (List.mem_of_getElem? (i := 59) rfl)) (by decide) (by decide)) (g := (mkF m 88 #[.val (.ref o0), .val (.int (3 : Int32)), .val (.int p2), .val (.int p3), .val (.int p4), .val (.int (own_min (own_min p2 p3) p4)), .unset, .unset] [(.int p4), (.int (own_max p2 p3))])) rfl (by rw [hml]; rfl) (argsL := [(.int (own_max p2 p3)), (.int p4)]) (rest := []) (lenOf own_pd4 rfl) rfl (by show 2 * 0 + _ ≤ _; exact Nat.le_of_eq rfl) (hb hby own_d_method_2_88) (fun _ _ => ⟨rfl, e8, (by decide : 0 + 0 ≤ _), (by decide : 0 + 0 ≤ _)⟩)
  dsimp only [Pt.U, Pt.locs, Pt.cells, Pt.slots] at X9 lq9 yq9 zq9 st9 hQ9
  subst lq9 yq9 zq9
  obtain ⟨rfl, N9q, e9⟩ := hQ9
  have N9 := Fr.app N8 N9q
  refine own_by (V := T9.setTop (mkF m 91 #[.val (.ref o0), .val (.int (3 : Int32)), .val (.int p2), .val (.int p3), .val (.int p4), .val (.int (own_min (own_min p2 p3) p4)), .unset, .unset] [(.int (own_max (own_max p2 p3) p4))])) st9 ?_
  refine own_by (V := T9.setTop (mkF m 93 #[.val (.ref o0), .val (.int (3 : Int32)), .val (.int p2), .val (.int p3), .val (.int p4), .val (.int (own_min (own_min p2 p3) p4)), .val (.int (own_max (own_max p2 p3) p4)), .unset] [])) (fun t k => XS.istore X9.here hx rfl (hb hby own_d_method_2_91) rfl (l' := #[.val (.ref o0), .val (.int (3 : Int32)), .val (.int p2), .val (.int p3), .val (.int p4), .val (.int (own_min (own_min p2 p3) p4)), .val (.int (own_max (own_max p2 p3) p4)), .unset]) rfl k) ?_
  refine own_by (V := T9.setTop (mkF m 94 #[.val (.ref o0), .val (.int (3 : Int32)), .val (.int p2), .val (.int p3), .val (.int p4), .val (.int (own_min (own_min p2 p3) p4)), .val (.int (own_max (own_max p2 p3) p4)), .unset] [(.int p2)])) (fun t k => XS.iloadN X9.here hx rfl (hb hby own_d_method_2_93) rfl  k) ?_
  refine own_by (V := T9.setTop (mkF m 95 #[.val (.ref o0), .val (.int (3 : Int32)), .val (.int p2), .val (.int p3), .val (.int p4), .val (.int (own_min (own_min p2 p3) p4)), .val (.int (own_max (own_max p2 p3) p4)), .unset] [(.int p3), (.int p2)])) (fun t k => XS.iloadN X9.here hx rfl (hb hby own_d_method_2_94) rfl  k) ?_
  obtain ⟨_, _, ⟨T10, Lq10, kq10, nq10⟩, -, X10, ⟨Lc10, hQ10, lq10, yq10, zq10⟩, st10⟩ := Jvm.LawKit.callS X9 hx (y := (⟨"java/lang/Math", "min", "(II)I"⟩ : MethodName)) hown (mvT hZ (hw _ (List.mem_of_getElem? (i := 57) rfl))) (mvT hZ (hw _ (List.mem_of_getElem? (i := 58) rfl))) (mvT hZ (hw _ (List.mem_of_getElem? (i := 59) rfl))) (mvT hZ (hw _ (List.mem_of_getElem? (i := 60) rfl))) (by decide) (backOf (W := 0) (own_rmin l Z a0 hw [] p2 p3 h0 n0) hZ (hw _ (List.mem_of_getElem? (i := 60) rfl)) (hw _ (List.mem_of_getElem? (i := 59) rfl)) (by decide) (by decide)) (g := (mkF m 95 #[.val (.ref o0), .val (.int (3 : Int32)), .val (.int p2), .val (.int p3), .val (.int p4), .val (.int (own_min (own_min p2 p3) p4)), .val (.int (own_max (own_max p2 p3) p4)), .unset] [(.int p3), (.int p2)])) rfl (by rw [hml]; rfl) (argsL := [(.int p2), (.int p3)]) (rest := []) (lenOf own_pd4 rfl) rfl (by show 2 * 0 + _ ≤ _; exact Nat.le_of_eq rfl) (hb hby own_d_method_2_95) (fun _ _ => ⟨rfl, e9, (by decide : 0 + 0 ≤ _), (by decide : 0 + 0 ≤ _)⟩)
  dsimp only [Pt.U, Pt.locs, Pt.cells, Pt.slots] at X10 lq10 yq10 zq10 st10 hQ10
  subst lq10 yq10 zq10
  obtain ⟨rfl, N10q, e10⟩ := hQ10
  have N10 := Fr.app N9 N10q
  refine own_by (V := T10.setTop (mkF m 98 #[.val (.ref o0), .val (.int (3 : Int32)), .val (.int p2), .val (.int p3), .val (.int p4), .val (.int (own_min (own_min p2 p3) p4)), .val (.int (own_max (own_max p2 p3) p4)), .unset] [(.int (own_min p2 p3))])) st10 ?_
  refine own_by (V := T10.setTop (mkF m 99 #[.val (.ref o0), .val (.int (3 : Int32)), .val (.int p2), .val (.int p3), .val (.int p4), .val (.int (own_min (own_min p2 p3) p4)), .val (.int (own_max (own_max p2 p3) p4)), .unset] [(.int p2), (.int (own_min p2 p3))])) (fun t k => XS.iloadN X10.here hx rfl (hb hby own_d_method_2_98) rfl  k) ?_
  refine own_by (V := T10.setTop (mkF m 100 #[.val (.ref o0), .val (.int (3 : Int32)), .val (.int p2), .val (.int p3), .val (.int p4), .val (.int (own_min (own_min p2 p3) p4)), .val (.int (own_max (own_max p2 p3) p4)), .unset] [(.int p3), (.int p2), (.int (own_min p2 p3))])) (fun t k => XS.iloadN X10.here hx rfl (hb hby own_d_method_2_99) rfl  k) ?_
  obtain ⟨_, _, ⟨T11, Lq11, kq11, nq11⟩, -, X11, ⟨Lc11, hQ11, lq11, yq11, zq11⟩, st11⟩ := Jvm.LawKit.callS X10 hx (y := (⟨"java/lang/Math", "max", "(II)I"⟩ : MethodName)) hown (mvT hZ (hw _ (List.mem_of_getElem? (i := 61) rfl))) (mvT hZ (hw _ (List.mem_of_getElem? (i := 62) rfl))) (mvT hZ (hw _ (List.mem_of_getElem? (i := 59) rfl))) (mvT hZ (hw _ (List.mem_of_getElem? (i := 63) rfl))) (by decide) (backOf (W := 1) (own_rmax l Z a0 hw [] p2 p3 h0 n0) hZ (hw _ (List.mem_of_getElem? (i := 63) rfl)) (hw _ (List.mem_of_getElem? (i := 59) rfl)) (by decide) (by decide)) (g := (mkF m 100 #[.val (.ref o0), .val (.int (3 : Int32)), .val (.int p2), .val (.int p3), .val (.int p4), .val (.int (own_min (own_min p2 p3) p4)), .val (.int (own_max (own_max p2 p3) p4)), .unset] [(.int p3), (.int p2), (.int (own_min p2 p3))])) rfl (by rw [hml]; rfl) (argsL := [(.int p2), (.int p3)]) (rest := [(.int (own_min p2 p3))]) (lenOf own_pd4 rfl) rfl (by show 2 * 0 + _ ≤ _; exact Nat.le_of_eq rfl) (hb hby own_d_method_2_100) (fun _ _ => ⟨rfl, e10, (by decide : 0 + 0 ≤ _), (by decide : 0 + 0 ≤ _)⟩)
  dsimp only [Pt.U, Pt.locs, Pt.cells, Pt.slots] at X11 lq11 yq11 zq11 st11 hQ11
  subst lq11 yq11 zq11
  obtain ⟨rfl, N11q, e11⟩ := hQ11
  have N11 := Fr.app N10 N11q
  refine own_by (V := T11.setTop (mkF m 103 #[.val (.ref o0), .val (.int (3 : Int32)), .val (.int p2), .val (.int p3), .val (.int p4), .val (.int (own_min (own_min p2 p3) p4)), .val (.int (own_max (own_max p2 p3) p4)), .unset] [(.int (own_max p2 p3)), (.int (own_min p2 p3))])) st11 ?_
  refine own_by (V := T11.setTop (mkF m 105 #[.val (.ref o0), .val (.int (3 : Int32)), .val (.int p2), .val (.int p3), .val (.int p4), .val (.int (own_min (own_min p2 p3) p4)), .val (.int (own_max (own_max p2 p3) p4)), .unset] [(.int p4), (.int (own_max p2 p3)), (.int (own_min p2 p3))])) (fun t k => XS.iload X11.here hx rfl (hb hby own_d_method_2_103) rfl  k) ?_
  obtain ⟨_, _, ⟨T12, Lq12, kq12, nq12⟩, -, X12, ⟨Lc12, hQ12, lq12, yq12, zq12⟩, st12⟩ := Jvm.LawKit.callS X11 hx (y := (⟨"java/lang/Math", "min", "(II)I"⟩ : MethodName)) hown (mvT hZ (hw _ (List.mem_of_getElem? (i := 57) rfl))) (mvT hZ (hw _ (List.mem_of_getElem? (i := 58) rfl))) (mvT hZ (hw _ (List.mem_of_getElem? (i := 59) rfl))) (mvT hZ (hw _ (List.mem_of_getElem? (i := 60) rfl))) (by decide) (backOf (W := 1) (own_rmin l Z a0 hw [] (own_max p2 p3) p4 h0 n0) hZ (hw _ (List.mem_of_getElem? (i := 60) rfl)) (hw _ (List.mem_of_getElem? (i := 59) rfl)) (by decide) (by decide)) (g := (mkF m 105 #[.val (.ref o0), .val (.int (3 : Int32)), .val (.int p2), .val (.int p3), .val (.int p4), .val (.int (own_min (own_min p2 p3) p4)), .val (.int (own_max (own_max p2 p3) p4)), .unset] [(.int p4), (.int (own_max p2 p3)), (.int (own_min p2 p3))])) rfl (by rw [hml]; rfl) (argsL := [(.int (own_max p2 p3)), (.int p4)]) (rest := [(.int (own_min p2 p3))]) (lenOf own_pd4 rfl) rfl (by show 2 * 0 + _ ≤ _; exact Nat.le_of_eq rfl) (hb hby own_d_method_2_105) (fun _ _ => ⟨rfl, e11, (by decide : 0 + 0 ≤ _), (by decide : 0 + 0 ≤ _)⟩)
  dsimp only [Pt.U, Pt.locs, Pt.cells, Pt.slots] at X12 lq12 yq12 zq12 st12 hQ12
  subst lq12 yq12 zq12
  obtain ⟨rfl, N12q, e12⟩ := hQ12
  have N12 := Fr.app N11 N12q
  refine own_by (V := T12.setTop (mkF m 108 #[.val (.ref o0), .val (.int (3 : Int32)), .val (.int p2), .val (.int p3), .val (.int p4), .val (.int (own_min (own_min p2 p3) p4)), .val (.int (own_max (own_max p2 p3) p4)), .unset] [(.int (own_min (own_max p2 p3) p4)), (.int (own_min p2 p3))])) st12 ?_
  obtain ⟨_, _, ⟨T13, Lq13, kq13, nq13⟩, -, X13, ⟨Lc13, hQ13, lq13, yq13, zq13⟩, st13⟩ := Jvm.LawKit.callS X12 hx (y := (⟨"java/lang/Math", "max", "(II)I"⟩ : MethodName)) hown (mvT hZ (hw _ (List.mem_of_getElem? (i := 61) rfl))) (mvT hZ (hw _ (List.mem_of_getElem? (i := 62) rfl))) (mvT hZ (hw _ (List.mem_of_getElem? (i := 59) rfl))) (mvT hZ (hw _ (List.mem_of_getElem? (i := 63) rfl))) (by decide) (backOf (W := 0) (own_rmax l Z a0 hw [] (own_min p2 p3) (own_min (own_max p2 p3) p4) h0 n0) hZ (hw _ (List.mem_of_getElem? (i := 63) rfl)) (hw _ (List.mem_of_getElem? (i := 59) rfl)) (by decide) (by decide)) (g := (mkF m 108 #[.val (.ref o0), .val (.int (3 : Int32)), .val (.int p2), .val (.int p3), .val (.int p4), .val (.int (own_min (own_min p2 p3) p4)), .val (.int (own_max (own_max p2 p3) p4)), .unset] [(.int (own_min (own_max p2 p3) p4)), (.int (own_min p2 p3))])) rfl (by rw [hml]; rfl) (argsL := [(.int (own_min p2 p3)), (.int (own_min (own_max p2 p3) p4))]) (rest := []) (lenOf own_pd4 rfl) rfl (by show 2 * 0 + _ ≤ _; exact Nat.le_of_eq rfl) (hb hby own_d_method_2_108) (fun _ _ => ⟨rfl, e12, (by decide : 0 + 0 ≤ _), (by decide : 0 + 0 ≤ _)⟩)
  dsimp only [Pt.U, Pt.locs, Pt.cells, Pt.slots] at X13 lq13 yq13 zq13 st13 hQ13
  subst lq13 yq13 zq13
  obtain ⟨rfl, N13q, e13⟩ := hQ13
  have N13 := Fr.app N12 N13q
  refine own_by (V := T13.setTop (mkF m 111 #[.val (.ref o0), .val (.int (3 : Int32)), .val (.int p2), .val (.int p3), .val (.int p4), .val (.int (own_min (own_min p2 p3) p4)), .val (.int (own_max (own_max p2 p3) p4)), .unset] [(.int (own_max (own_min p2 p3) (own_min (own_max p2 p3) p4)))])) st13 ?_
  refine own_by (V := T13.setTop (mkF m 113 #[.val (.ref o0), .val (.int (3 : Int32)), .val (.int p2), .val (.int p3), .val (.int p4), .val (.int (own_min (own_min p2 p3) p4)), .val (.int (own_max (own_max p2 p3) p4)), .val (.int (own_max (own_min p2 p3) (own_min (own_max p2 p3) p4)))] [])) (fun t k => XS.istore X13.here hx rfl (hb hby own_d_method_2_111) rfl (l' := #[.val (.ref o0), .val (.int (3 : Int32)), .val (.int p2), .val (.int p3), .val (.int p4), .val (.int (own_min (own_min p2 p3) p4)), .val (.int (own_max (own_max p2 p3) p4)), .val (.int (own_max (own_min p2 p3) (own_min (own_max p2 p3) p4)))]) rfl k) ?_
  refine own_by (V := T13.setTop (mkF m 114 #[.val (.ref o0), .val (.int (3 : Int32)), .val (.int p2), .val (.int p3), .val (.int p4), .val (.int (own_min (own_min p2 p3) p4)), .val (.int (own_max (own_max p2 p3) p4)), .val (.int (own_max (own_min p2 p3) (own_min (own_max p2 p3) p4)))] [(.ref o0)])) (fun t k => XS.aloadN X13.here hx rfl (hb hby own_d_method_2_113) rfl rfl k) ?_
  refine own_by (V := T13.setTop (mkF m 115 #[.val (.ref o0), .val (.int (3 : Int32)), .val (.int p2), .val (.int p3), .val (.int p4), .val (.int (own_min (own_min p2 p3) p4)), .val (.int (own_max (own_max p2 p3) p4)), .val (.int (own_max (own_min p2 p3) (own_min (own_max p2 p3) p4)))] [(.int (0 : Int32)), (.ref o0)])) (fun t k => XS.iconst X13.here hx rfl (hb hby own_d_method_2_114) k) ?_
  obtain ⟨cl14, Ar14, qa14, Sa14, Ma14, Ha14, Ua14⟩ := id A0
  have hi14 := inb_of Sa14 (j := (0 : Int32)) ⟨(by decide), (by decide)⟩
  refine own_by (V := T13.setTop (mkF m 116 #[.val (.ref o0), .val (.int (3 : Int32)), .val (.int p2), .val (.int p3), .val (.int p4), .val (.int (own_min (own_min p2 p3) p4)), .val (.int (own_max (own_max p2 p3) p4)), .val (.int (own_max (own_min p2 p3) (own_min (own_max p2 p3) p4)))] [(.int (own_min (own_min p2 p3) p4))])) (X13.iaload hx (j := (0 : Int32)) (v := (.int (own_min (own_min p2 p3) p4))) (by rw [e13]; exact Ar14.1) (State.isArrayOf_alike hZ.alike Ar14.2.1) Ar14.2.2 hi14 (Has.at Ha14 hi14 rfl) (g := (mkF m 115 #[.val (.ref o0), .val (.int (3 : Int32)), .val (.int p2), .val (.int p3), .val (.int p4), .val (.int (own_min (own_min p2 p3) p4)), .val (.int (own_max (own_max p2 p3) p4)), .val (.int (own_max (own_min p2 p3) (own_min (own_max p2 p3) p4)))] [(.int (0 : Int32)), (.ref o0)])) rfl rfl (hb hby own_d_method_2_115)) ?_
  refine own_by (V := T13.setTop (mkF m 118 #[.val (.ref o0), .val (.int (3 : Int32)), .val (.int p2), .val (.int p3), .val (.int p4), .val (.int (own_min (own_min p2 p3) p4)), .val (.int (own_max (own_max p2 p3) p4)), .val (.int (own_max (own_min p2 p3) (own_min (own_max p2 p3) p4)))] [(.int (own_min (own_min p2 p3) p4)), (.int (own_min (own_min p2 p3) p4))])) (fun t k => XS.iload X13.here hx rfl (hb hby own_d_method_2_116) rfl  k) ?_
  have hb118_15 : ((own_min (own_min p2 p3) p4) = (own_min (own_min p2 p3) p4)) := rfl
  refine own_by (V := T13.setTop (mkF m 121 #[.val (.ref o0), .val (.int (3 : Int32)), .val (.int p2), .val (.int p3), .val (.int p4), .val (.int (own_min (own_min p2 p3) p4)), .val (.int (own_max (own_max p2 p3) p4)), .val (.int (own_max (own_min p2 p3) (own_min (own_max p2 p3) p4)))] [])) (fun t k => XS.icmpNo X13.here hx rfl (hb hby own_d_method_2_118) rfl (teq hb118_15).2 k) ?_
  refine own_by (V := T13.setTop (mkF m 122 #[.val (.ref o0), .val (.int (3 : Int32)), .val (.int p2), .val (.int p3), .val (.int p4), .val (.int (own_min (own_min p2 p3) p4)), .val (.int (own_max (own_max p2 p3) p4)), .val (.int (own_max (own_min p2 p3) (own_min (own_max p2 p3) p4)))] [(.ref o0)])) (fun t k => XS.aloadN X13.here hx rfl (hb hby own_d_method_2_121) rfl rfl k) ?_
  refine own_by (V := T13.setTop (mkF m 123 #[.val (.ref o0), .val (.int (3 : Int32)), .val (.int p2), .val (.int p3), .val (.int p4), .val (.int (own_min (own_min p2 p3) p4)), .val (.int (own_max (own_max p2 p3) p4)), .val (.int (own_max (own_min p2 p3) (own_min (own_max p2 p3) p4)))] [(.int (1 : Int32)), (.ref o0)])) (fun t k => XS.iconst X13.here hx rfl (hb hby own_d_method_2_122) k) ?_
  obtain ⟨cl16, Ar16, qa16, Sa16, Ma16, Ha16, Ua16⟩ := id A0
  have hi16 := inb_of Sa16 (j := (1 : Int32)) ⟨(by decide), (by decide)⟩
  refine own_by (V := T13.setTop (mkF m 124 #[.val (.ref o0), .val (.int (3 : Int32)), .val (.int p2), .val (.int p3), .val (.int p4), .val (.int (own_min (own_min p2 p3) p4)), .val (.int (own_max (own_max p2 p3) p4)), .val (.int (own_max (own_min p2 p3) (own_min (own_max p2 p3) p4)))] [(.int (own_max (own_min p2 p3) (own_min (own_max p2 p3) p4)))])) (X13.iaload hx (j := (1 : Int32)) (v := (.int (own_max (own_min p2 p3) (own_min (own_max p2 p3) p4)))) (by rw [e13]; exact Ar16.1) (State.isArrayOf_alike hZ.alike Ar16.2.1) Ar16.2.2 hi16 (Has.at Ha16 hi16 rfl) (g := (mkF m 123 #[.val (.ref o0), .val (.int (3 : Int32)), .val (.int p2), .val (.int p3), .val (.int p4), .val (.int (own_min (own_min p2 p3) p4)), .val (.int (own_max (own_max p2 p3) p4)), .val (.int (own_max (own_min p2 p3) (own_min (own_max p2 p3) p4)))] [(.int (1 : Int32)), (.ref o0)])) rfl rfl (hb hby own_d_method_2_123)) ?_
  refine own_by (V := T13.setTop (mkF m 126 #[.val (.ref o0), .val (.int (3 : Int32)), .val (.int p2), .val (.int p3), .val (.int p4), .val (.int (own_min (own_min p2 p3) p4)), .val (.int (own_max (own_max p2 p3) p4)), .val (.int (own_max (own_min p2 p3) (own_min (own_max p2 p3) p4)))] [(.int (own_max (own_min p2 p3) (own_min (own_max p2 p3) p4))), (.int (own_max (own_min p2 p3) (own_min (own_max p2 p3) p4)))])) (fun t k => XS.iload X13.here hx rfl (hb hby own_d_method_2_124) rfl  k) ?_
  have hb126_17 : ((own_max (own_min p2 p3) (own_min (own_max p2 p3) p4)) = (own_max (own_min p2 p3) (own_min (own_max p2 p3) p4))) := rfl
  refine own_by (V := T13.setTop (mkF m 129 #[.val (.ref o0), .val (.int (3 : Int32)), .val (.int p2), .val (.int p3), .val (.int p4), .val (.int (own_min (own_min p2 p3) p4)), .val (.int (own_max (own_max p2 p3) p4)), .val (.int (own_max (own_min p2 p3) (own_min (own_max p2 p3) p4)))] [])) (fun t k => XS.icmpNo X13.here hx rfl (hb hby own_d_method_2_126) rfl (teq hb126_17).2 k) ?_
  refine own_by (V := T13.setTop (mkF m 130 #[.val (.ref o0), .val (.int (3 : Int32)), .val (.int p2), .val (.int p3), .val (.int p4), .val (.int (own_min (own_min p2 p3) p4)), .val (.int (own_max (own_max p2 p3) p4)), .val (.int (own_max (own_min p2 p3) (own_min (own_max p2 p3) p4)))] [(.ref o0)])) (fun t k => XS.aloadN X13.here hx rfl (hb hby own_d_method_2_129) rfl rfl k) ?_
  refine own_by (V := T13.setTop (mkF m 131 #[.val (.ref o0), .val (.int (3 : Int32)), .val (.int p2), .val (.int p3), .val (.int p4), .val (.int (own_min (own_min p2 p3) p4)), .val (.int (own_max (own_max p2 p3) p4)), .val (.int (own_max (own_min p2 p3) (own_min (own_max p2 p3) p4)))] [(.int (2 : Int32)), (.ref o0)])) (fun t k => XS.iconst X13.here hx rfl (hb hby own_d_method_2_130) k) ?_
  obtain ⟨cl18, Ar18, qa18, Sa18, Ma18, Ha18, Ua18⟩ := id A0
  have hi18 := inb_of Sa18 (j := (2 : Int32)) ⟨(by decide), (by decide)⟩
  refine own_by (V := T13.setTop (mkF m 132 #[.val (.ref o0), .val (.int (3 : Int32)), .val (.int p2), .val (.int p3), .val (.int p4), .val (.int (own_min (own_min p2 p3) p4)), .val (.int (own_max (own_max p2 p3) p4)), .val (.int (own_max (own_min p2 p3) (own_min (own_max p2 p3) p4)))] [(.int (own_max (own_max p2 p3) p4))])) (X13.iaload hx (j := (2 : Int32)) (v := (.int (own_max (own_max p2 p3) p4))) (by rw [e13]; exact Ar18.1) (State.isArrayOf_alike hZ.alike Ar18.2.1) Ar18.2.2 hi18 (Has.at Ha18 hi18 rfl) (g := (mkF m 131 #[.val (.ref o0), .val (.int (3 : Int32)), .val (.int p2), .val (.int p3), .val (.int p4), .val (.int (own_min (own_min p2 p3) p4)), .val (.int (own_max (own_max p2 p3) p4)), .val (.int (own_max (own_min p2 p3) (own_min (own_max p2 p3) p4)))] [(.int (2 : Int32)), (.ref o0)])) rfl rfl (hb hby own_d_method_2_131)) ?_
  refine own_by (V := T13.setTop (mkF m 134 #[.val (.ref o0), .val (.int (3 : Int32)), .val (.int p2), .val (.int p3), .val (.int p4), .val (.int (own_min (own_min p2 p3) p4)), .val (.int (own_max (own_max p2 p3) p4)), .val (.int (own_max (own_min p2 p3) (own_min (own_max p2 p3) p4)))] [(.int (own_max (own_max p2 p3) p4)), (.int (own_max (own_max p2 p3) p4))])) (fun t k => XS.iload X13.here hx rfl (hb hby own_d_method_2_132) rfl  k) ?_
  have hb134_19 : ((own_max (own_max p2 p3) p4) = (own_max (own_max p2 p3) p4)) := rfl
  refine own_by (V := T13.setTop (mkF m 137 #[.val (.ref o0), .val (.int (3 : Int32)), .val (.int p2), .val (.int p3), .val (.int p4), .val (.int (own_min (own_min p2 p3) p4)), .val (.int (own_max (own_max p2 p3) p4)), .val (.int (own_max (own_min p2 p3) (own_min (own_max p2 p3) p4)))] [])) (fun t k => XS.icmpNo X13.here hx rfl (hb hby own_d_method_2_134) rfl (teq hb134_19).2 k) ?_
  refine own_by (V := T13.setTop (mkF m 138 #[.val (.ref o0), .val (.int (3 : Int32)), .val (.int p2), .val (.int p3), .val (.int p4), .val (.int (own_min (own_min p2 p3) p4)), .val (.int (own_max (own_max p2 p3) p4)), .val (.int (own_max (own_min p2 p3) (own_min (own_max p2 p3) p4)))] [(.int (1 : Int32))])) (fun t k => XS.iconst X13.here hx rfl (hb hby own_d_method_2_137) k) ?_
  refine own_by (V := T13.setTop (mkF m 142 #[.val (.ref o0), .val (.int (3 : Int32)), .val (.int p2), .val (.int p3), .val (.int p4), .val (.int (own_min (own_min p2 p3) p4)), .val (.int (own_max (own_max p2 p3) p4)), .val (.int (own_max (own_min p2 p3) (own_min (own_max p2 p3) p4)))] [(.int (1 : Int32))])) (fun t k => XS.goto X13.here hx rfl (pc0 := 138) (pc' := 142) rfl (hb hby own_d_method_2_138) (by decide) (by decide) k) ?_
  refine own_retN X13 hx hlk e13 Bd.returns (t := .boolean) (by simp) rfl (hb hby own_d_method_2_142) ?_ (by decide) (by decide)
  exact ⟨congrArg (fun z => some (Value.int z)) (show (1 : Int32) = (1 : Int32) from by rfl), N13, rfl⟩
def own_Q_own_snap_null (Z : State) (o0 : Addr) (o1 : Addr) (h0 : Heap) (n0 : Nat) : Option Value → Heap → List Loc → Prop := fun v h L => v = none ∧ Fr n0 L ∧ Keep h0 h [o0] ∧ Exa Z h o0 "com/example/nocord/nocord/model/Snapshot" ∧ Fld Z h o0 "com/example/nocord/nocord/model/Snapshot" "timestamp" "Lcom/example/nocord/nocord/model/Timestamp;" (.ref o1) ∧ Fld Z h o0 "com/example/nocord/nocord/model/Snapshot" "installing" "[I" .null
theorem own_ef_own_snap_null (m : MethodId) (x0 : Addr) (x1 : Addr) : entryFrame m #[(.ref x0), (.ref x1), .null] 3 = mkF m 0 #[.val (.ref x0), .val (.ref x1), .val .null] [] := by first | (simp [entryFrame, mkF, argsToLocals, Value.category]; done) | rfl
set_option maxRecDepth 65536 in
set_option maxHeartbeats 40000000 in
theorem own_snap_null (l : Launch) (Z : State) (a0 : Array Value) (hw : ∀ d ∈ tables_1, d.before a0 Z = true) (ws : List Jvm.Cond) (o0 : Addr) (o1 : Addr) (h0 : Heap) (n0 : Nat) (Z0 : n0 ≤ h0.size) (g0 : n0 ≤ o0) (E0 : Exa Z h0 o0 "com/example/nocord/nocord/model/Snapshot") (Ft : Fld Z h0 o0 "com/example/nocord/nocord/model/Snapshot" "timestamp" "Lcom/example/nocord/nocord/model/Timestamp;" .null) (Fi : Fld Z h0 o0 "com/example/nocord/nocord/model/Snapshot" "installing" "[I" .null) :
    MetFree l (⟨"com/example/nocord/nocord/model/Snapshot", "<init>", "(Lcom/example/nocord/nocord/model/Timestamp;[I)V"⟩ : MethodName) (head1 (Jvm.Cond.code (⟨"com/example/nocord/nocord/model/Snapshot", "<init>", "(Lcom/example/nocord/nocord/model/Timestamp;[I)V"⟩ : MethodName) prog_47_method_1_code 3 none :: ws) ({ frames := 1, cells := 0, slots := 0, locals := 12 } : Room)) (fun a U => a = #[(.ref o0), (.ref o1), .null] ∧ Z.Warmed39 U.vm ∧ U.heap = h0) (fun _ _ _ _ _ => True) (fun _ U o U' => ∃ v L, o = .returned v ∧ (own_Q_own_snap_null Z o0 o1 h0 n0) v U'.heap L ∧ FrameEnd U o U' L ({ frames := 1, cells := 0, slots := 0, locals := 12 } : Room).cells ({ frames := 1, cells := 0, slots := 0, locals := 12 } : Room).slots) := by
  refine MetFree.of_bodySF (plainFor_of_name own_pn3) hisR ?_
  intro p e s m args below meth c s₁ Bd hml0 hP hK
  obtain ⟨rfl, hZ, hh⟩ := hP
  have hx := Bd.exec
  have hby := Bd.bytes
  have hml : c.maxLocals = 3 := hml0
  have hown : s.vm.findClass "com/example/nocord/nocord/model/Snapshot" = some m.cls := findClass_of_methodNamed Bd.named
  have hnm := (name_of_methodNamed Bd.named Bd.method).1
  have hlk : meth.locks = false := BodyLoose.notSynchronized Bd
  have X0 : Stand p l e ({ frames := 1, cells := 0, slots := 0, locals := 12 } : Room) s m #[(.ref o0), (.ref o1), .null] below meth c s₁ [] 0 0 := Stand.of_body Bd
  have e0 : s₁.heap = h0 := by rw [← hh, Bd.state]; rfl
  have N0 := Fr.nil n0
  show own_Ends p e below s (own_Q_own_snap_null Z o0 o1 h0 n0) ({ frames := 1, cells := 0, slots := 0, locals := 12 } : Room).cells ({ frames := 1, cells := 0, slots := 0, locals := 12 } : Room).slots _
  refine own_by (V := s₁.setTop (mkF m 0 #[.val (.ref o0), .val (.ref o1), .val .null] [])) (fun t k => castTop (own_ef_own_snap_null m o0 o1) k) ?_
  refine own_by (V := s₁.setTop (mkF m 1 #[.val (.ref o0), .val (.ref o1), .val .null] [(.ref o0)])) (fun t k => XS.aloadN X0.here hx rfl (hb hby own_d_prog_47_1_0) rfl rfl k) ?_
  obtain ⟨T1, X1, e1, st1⟩ := initO X0 hx hZ hown (hw _ (List.mem_of_getElem? (i := 20) rfl)) (hw _ (List.mem_of_getElem? (i := 11) rfl)) (hw _ (List.mem_of_getElem? (i := 12) rfl)) e0 (g := (mkF m 1 #[.val (.ref o0), .val (.ref o1), .val .null] [(.ref o0)])) rfl (by rw [hml]; rfl) rfl (hb hby own_d_prog_47_1_1) (by decide) (W := 0) (by show 2 * 0 + _ ≤ _; exact Nat.le_of_eq rfl) (by decide)
  refine own_by (V := T1.setTop (mkF m 4 #[.val (.ref o0), .val (.ref o1), .val .null] [])) st1 ?_
  refine own_by (V := T1.setTop (mkF m 5 #[.val (.ref o0), .val (.ref o1), .val .null] [.null])) (fun t k => XS.aloadN X1.here hx rfl (hb hby own_d_prog_47_1_4) rfl rfl k) ?_
  refine own_by (V := T1.setTop (mkF m 31 #[.val (.ref o0), .val (.ref o1), .val .null] [])) (fun t k => XS.ifnullYes X1.here hx rfl (pc0 := 5) (pc' := 31) rfl (hb hby own_d_prog_47_1_5) rfl (by decide) (by decide) k) ?_
  refine own_by (V := T1.setTop (mkF m 32 #[.val (.ref o0), .val (.ref o1), .val .null] [(.ref o0)])) (fun t k => XS.aloadN X1.here hx rfl (hb hby own_d_prog_47_1_31) rfl rfl k) ?_
  refine own_by (V := T1.setTop (mkF m 33 #[.val (.ref o0), .val (.ref o1), .val .null] [(.ref o1), (.ref o0)])) (fun t k => XS.aloadN X1.here hx rfl (hb hby own_d_prog_47_1_32) rfl rfl k) ?_
  obtain ⟨T2, h2, X2, e2, W2, st2⟩ := putF X1 hx hZ hown (host := "") (Or.inl (hw _ (List.mem_of_getElem? (i := 21) rfl))) Via.refl e1 Ft E0 (Or.inr ⟨(hw _ (List.mem_of_getElem? (i := 22) rfl)), rfl, hnm⟩) (hw _ (List.mem_of_getElem? (i := 2) rfl)) (ty := (.object "com/example/nocord/nocord/model/Timestamp")) (by decide) rfl rfl (g := (mkF m 33 #[.val (.ref o0), .val (.ref o1), .val .null] [(.ref o1), (.ref o0)])) rfl rfl (hb hby own_d_prog_47_1_33)
  have N2 := Fr.snoc X2 N0 g0
  have K2 := (Keep.refl h0 [o0]).wr W2 (Or.inl (List.mem_of_getElem? (i := 0) rfl))
  have Zs2 : n0 ≤ h2.size := by rw [W2.size]; exact Z0
  have f3 := E0.wr W2
  have f4 := Ft.same W2
  have f5 := Fi.other W2 (Or.inr (slot_ne (Or.inr (hw _ (List.mem_of_getElem? (i := 33) rfl))) (Or.inr (hw _ (List.mem_of_getElem? (i := 22) rfl))) (by decide) (t := (.array .int)) (t' := (.object "com/example/nocord/nocord/model/Timestamp")) (by decide) (by decide)))
  refine own_by (V := T2.setTop (mkF m 36 #[.val (.ref o0), .val (.ref o1), .val .null] [])) st2 ?_
  refine own_by (V := T2.setTop (mkF m 37 #[.val (.ref o0), .val (.ref o1), .val .null] [(.ref o0)])) (fun t k => XS.aloadN X2.here hx rfl (hb hby own_d_prog_47_1_36) rfl rfl k) ?_
  refine own_by (V := T2.setTop (mkF m 38 #[.val (.ref o0), .val (.ref o1), .val .null] [.null, (.ref o0)])) (fun t k => XS.aloadN X2.here hx rfl (hb hby own_d_prog_47_1_37) rfl rfl k) ?_
  refine own_by (V := T2.setTop (mkF m 51 #[.val (.ref o0), .val (.ref o1), .val .null] [(.ref o0)])) (fun t k => XS.ifnullYes X2.here hx rfl (pc0 := 38) (pc' := 51) rfl (hb hby own_d_prog_47_1_38) rfl (by decide) (by decide) k) ?_
  refine own_by (V := T2.setTop (mkF m 52 #[.val (.ref o0), .val (.ref o1), .val .null] [.null, (.ref o0)])) (fun t k => XS.aconstNull X2.here hx rfl (hb hby own_d_prog_47_1_51) k) ?_
  obtain ⟨T6, h6, X6, e6, W6, st6⟩ := putF X2 hx hZ hown (host := "") (Or.inl (hw _ (List.mem_of_getElem? (i := 32) rfl))) Via.refl e2 f5 f3 (Or.inr ⟨(hw _ (List.mem_of_getElem? (i := 33) rfl)), rfl, hnm⟩) (hw _ (List.mem_of_getElem? (i := 2) rfl)) (ty := (.array .int)) (by decide) rfl rfl (g := (mkF m 52 #[.val (.ref o0), .val (.ref o1), .val .null] [.null, (.ref o0)])) rfl rfl (hb hby own_d_prog_47_1_52)
  have N6 := Fr.snoc X6 N2 g0
  have K6 := K2.wr W6 (Or.inl (List.mem_of_getElem? (i := 0) rfl))
  have Zs6 : n0 ≤ h6.size := by rw [W6.size]; exact Zs2
  have f7 := f3.wr W6
  have f8 := f4.other W6 (Or.inr (slot_ne (Or.inr (hw _ (List.mem_of_getElem? (i := 22) rfl))) (Or.inr (hw _ (List.mem_of_getElem? (i := 33) rfl))) (by decide) (t := (.object "com/example/nocord/nocord/model/Timestamp")) (t' := (.array .int)) (by decide) (by decide)))
  have f9 := f5.same W6
  refine own_by (V := T6.setTop (mkF m 55 #[.val (.ref o0), .val (.ref o1), .val .null] [])) st6 ?_
  refine own_by (V := T6.setTop (mkF m 56 #[.val (.ref o0), .val (.ref o1), .val .null] [(.ref o0)])) (fun t k => XS.aloadN X6.here hx rfl (hb hby own_d_prog_47_1_55) rfl rfl k) ?_
  obtain ⟨T10, X10, e10, st10⟩ := getF X6 hx hZ hown (host := "") (Or.inl (hw _ (List.mem_of_getElem? (i := 32) rfl))) Via.refl e6 f9 (g := (mkF m 56 #[.val (.ref o0), .val (.ref o1), .val .null] [(.ref o0)])) rfl rfl (hb hby own_d_prog_47_1_56)
  refine own_by (V := T10.setTop (mkF m 59 #[.val (.ref o0), .val (.ref o1), .val .null] [.null])) st10 ?_
  refine own_by (V := T10.setTop (mkF m 69 #[.val (.ref o0), .val (.ref o1), .val .null] [])) (fun t k => XS.ifnullYes X10.here hx rfl (pc0 := 59) (pc' := 69) rfl (hb hby own_d_prog_47_1_59) rfl (by decide) (by decide) k) ?_
  refine own_ret0 X10 hx hlk e10 Bd.returns (hb hby own_d_prog_47_1_69) ?_ (by decide) (by decide)
  exact ⟨rfl, N6, K6, f7, f8, f9⟩
def own_Q_own_hash_null (Z : State) (o0 : Addr) (h0 : Heap) (n0 : Nat) : Option Value → Heap → List Loc → Prop := fun v h L => v = some .null ∧ Fr n0 L ∧ h = h0
theorem own_ef_own_hash_null (m : MethodId) (x0 : Addr) : entryFrame m #[(.ref x0)] 1 = mkF m 0 #[.val (.ref x0)] [] := by first | (simp [entryFrame, mkF, argsToLocals, Value.category]; done) | rfl
set_option maxRecDepth 65536 in
set_option maxHeartbeats 40000000 in
theorem own_hash_null (l : Launch) (Z : State) (a0 : Array Value) (hw : ∀ d ∈ tables_1, d.before a0 Z = true) (ws : List Jvm.Cond) (o0 : Addr) (h0 : Heap) (n0 : Nat) (Z0 : n0 ≤ h0.size) (Fi : Fld Z h0 o0 "com/example/nocord/nocord/model/Snapshot" "installing" "[I" .null) :
    MetFree l (⟨"com/example/nocord/nocord/model/Snapshot", "installingHashes", "()[I"⟩ : MethodName) (head1 (Jvm.Cond.code (⟨"com/example/nocord/nocord/model/Snapshot", "installingHashes", "()[I"⟩ : MethodName) prog_47_method_3_code 1 (some (.array .int)) :: ws) ({ frames := 0, cells := 0, slots := 0, locals := 0 } : Room)) (fun a U => a = #[(.ref o0)] ∧ Z.Warmed39 U.vm ∧ U.heap = h0) (fun _ _ _ _ _ => True) (fun _ U o U' => ∃ v L, o = .returned v ∧ (own_Q_own_hash_null Z o0 h0 n0) v U'.heap L ∧ FrameEnd U o U' L ({ frames := 0, cells := 0, slots := 0, locals := 0 } : Room).cells ({ frames := 0, cells := 0, slots := 0, locals := 0 } : Room).slots) := by
  refine MetFree.of_bodySF (plainFor_of_name own_pn3) hisR ?_
  intro p e s m args below meth c s₁ Bd hml0 hP hK
  obtain ⟨rfl, hZ, hh⟩ := hP
  have hx := Bd.exec
  have hby := Bd.bytes
  have hml : c.maxLocals = 1 := hml0
  have hown : s.vm.findClass "com/example/nocord/nocord/model/Snapshot" = some m.cls := findClass_of_methodNamed Bd.named
  have hnm := (name_of_methodNamed Bd.named Bd.method).1
  have hlk : meth.locks = false := BodyLoose.notSynchronized Bd
  have X0 : Stand p l e ({ frames := 0, cells := 0, slots := 0, locals := 0 } : Room) s m #[(.ref o0)] below meth c s₁ [] 0 0 := Stand.of_body Bd
  have e0 : s₁.heap = h0 := by rw [← hh, Bd.state]; rfl
  have N0 := Fr.nil n0
  show own_Ends p e below s (own_Q_own_hash_null Z o0 h0 n0) ({ frames := 0, cells := 0, slots := 0, locals := 0 } : Room).cells ({ frames := 0, cells := 0, slots := 0, locals := 0 } : Room).slots _
  refine own_by (V := s₁.setTop (mkF m 0 #[.val (.ref o0)] [])) (fun t k => castTop (own_ef_own_hash_null m o0) k) ?_
  refine own_by (V := s₁.setTop (mkF m 1 #[.val (.ref o0)] [(.ref o0)])) (fun t k => XS.aloadN X0.here hx rfl (hb hby own_d_prog_47_3_0) rfl rfl k) ?_
  obtain ⟨T1, X1, e1, st1⟩ := getF X0 hx hZ hown (host := "") (Or.inl (hw _ (List.mem_of_getElem? (i := 32) rfl))) Via.refl e0 Fi (g := (mkF m 1 #[.val (.ref o0)] [(.ref o0)])) rfl rfl (hb hby own_d_prog_47_3_1)
  refine own_by (V := T1.setTop (mkF m 4 #[.val (.ref o0)] [.null])) st1 ?_
  refine own_by (V := T1.setTop (mkF m 20 #[.val (.ref o0)] [])) (fun t k => XS.ifnullYes X1.here hx rfl (pc0 := 4) (pc' := 20) rfl (hb hby own_d_prog_47_3_4) rfl (by decide) (by decide) k) ?_
  refine own_by (V := T1.setTop (mkF m 21 #[.val (.ref o0)] [.null])) (fun t k => XS.aconstNull X1.here hx rfl (hb hby own_d_prog_47_3_20) k) ?_
  refine own_retA X1 hx hlk e1 (w := .null) rfl Bd.returns rfl (hb hby own_d_prog_47_3_21) ?_ (by decide) (by decide)
  exact ⟨rfl, N0, rfl⟩
def own_Q_own_rm0 (Z : State) (p0 : Int32) (p1 : Int32) (p2 : Int32) (p3 : Int32) (h0 : Heap) (n0 : Nat) : Option Value → Heap → List Loc → Prop := fun v h L => v = some (.int 1) ∧ Fr n0 L
theorem own_ef_own_rm0 (m : MethodId) (x0 : Int32) (x1 : Int32) (x2 : Int32) (x3 : Int32) : entryFrame m #[(.int x0), (.int x1), (.int x2), (.int x3)] maxLocals = mkF m 0 #[.val (.int x0), .val (.int x1), .val (.int x2), .val (.int x3), .unset, .unset, .unset, .unset, .unset, .unset] [] := by first | (simp [entryFrame, mkF, argsToLocals, Value.category, maxLocals]; done) | rfl
set_option maxRecDepth 65536 in
set_option maxHeartbeats 40000000 in
theorem own_rm0 (l : Launch) (Z : State) (a0 : Array Value) (hw : ∀ d ∈ tables_1, d.before a0 Z = true) (ws : List Jvm.Cond) (p0 : Int32) (p1 : Int32) (p2 : Int32) (p3 : Int32) (h0 : Heap) (n0 : Nat) (Z0 : n0 ≤ h0.size) :
    MetFree l x (head1 (Jvm.Cond.code x code maxLocals ret :: ws) room_1) (fun a U => a = #[(.int p0), (.int p1), (.int p2), (.int p3)] ∧ Z.Warmed39 U.vm ∧ U.heap = h0) (fun _ _ _ _ _ => True) (fun _ U o U' => ∃ v L, o = .returned v ∧ (own_Q_own_rm0 Z p0 p1 p2 p3 h0 n0) v U'.heap L ∧ FrameEnd U o U' L room_1.cells room_1.slots) := by
  refine MetFree.of_bodySF (plainFor_of_name own_pn4) hisR ?_
  intro p e s m args below meth c s₁ Bd hml0 hP hK
  obtain ⟨rfl, hZ, hh⟩ := hP
  have hx := Bd.exec
  have hby := Bd.bytes
  have hml : c.maxLocals = 10 := hml0
  have hown : s.vm.findClass "com/example/nocord/nocord/model/SnapshotInstallingHashesPinLaw" = some m.cls := findClass_of_methodNamed Bd.named
  have hnm := (name_of_methodNamed Bd.named Bd.method).1
  have hlk : meth.locks = false := BodyLoose.notSynchronized Bd
  have X0 : Stand p l e room_1 s m #[(.int p0), (.int p1), (.int p2), (.int p3)] below meth c s₁ [] 0 0 := Stand.of_body Bd
  have e0 : s₁.heap = h0 := by rw [← hh, Bd.state]; rfl
  have N0 := Fr.nil n0
  show own_Ends p e below s (own_Q_own_rm0 Z p0 p1 p2 p3 h0 n0) room_1.cells room_1.slots _
  refine own_by (V := s₁.setTop (mkF m 0 #[.val (.int p0), .val (.int p1), .val (.int p2), .val (.int p3), .unset, .unset, .unset, .unset, .unset, .unset] [])) (fun t k => castTop (own_ef_own_rm0 m p0 p1 p2 p3) k) ?_
  refine own_by (V := s₁.setTop (mkF m 1 #[.val (.int p0), .val (.int p1), .val (.int p2), .val (.int p3), .unset, .unset, .unset, .unset, .unset, .unset] [(.int p3)])) (fun t k => XS.iloadN X0.here hx rfl (hb hby at_0) rfl  k) ?_
  refine own_by (V := s₁.setTop (mkF m 2 #[.val (.int p0), .val (.int p1), .val (.int p2), .val (.int p3), .unset, .unset, .unset, .unset, .unset, .unset] [(.int (3 : Int32)), (.int p3)])) (fun t k => XS.iconst X0.here hx rfl (hb hby at_1) k) ?_
  refine own_by (V := s₁.setTop (mkF m 3 #[.val (.int p0), .val (.int p1), .val (.int p2), .val (.int p3), .unset, .unset, .unset, .unset, .unset, .unset] [(.int (p3 &&& (3 : Int32)))])) (fun t k => XS.iand X0.here hx rfl (hb hby at_2) rfl k) ?_
  obtain ⟨z1, hz1⟩ : ∃ z : Int32, z = (p3 &&& (3 : Int32)) := ⟨_, rfl⟩
  rw [← hz1]
  refine own_by (V := s₁.setTop (mkF m 5 #[.val (.int p0), .val (.int p1), .val (.int p2), .val (.int p3), .val (.int z1), .unset, .unset, .unset, .unset, .unset] [])) (fun t k => XS.istore X0.here hx rfl (hb hby at_3) rfl (l' := #[.val (.int p0), .val (.int p1), .val (.int p2), .val (.int p3), .val (.int z1), .unset, .unset, .unset, .unset, .unset]) rfl k) ?_
  refine own_by (V := s₁.setTop (mkF m 6 #[.val (.int p0), .val (.int p1), .val (.int p2), .val (.int p3), .val (.int z1), .unset, .unset, .unset, .unset, .unset] [(.int p3)])) (fun t k => XS.iloadN X0.here hx rfl (hb hby at_5) rfl  k) ?_
  refine own_by (V := s₁.setTop (mkF m 7 #[.val (.int p0), .val (.int p1), .val (.int p2), .val (.int p3), .val (.int z1), .unset, .unset, .unset, .unset, .unset] [(.int (4 : Int32)), (.int p3)])) (fun t k => XS.iconst X0.here hx rfl (hb hby at_6) k) ?_
  refine own_by (V := s₁.setTop (mkF m 8 #[.val (.int p0), .val (.int p1), .val (.int p2), .val (.int p3), .val (.int z1), .unset, .unset, .unset, .unset, .unset] [(.int (p3 &&& (4 : Int32)))])) (fun t k => XS.iand X0.here hx rfl (hb hby at_7) rfl k) ?_
  by_cases hb8_2 : (p3 &&& (4 : Int32)) = (0 : Int32)
  · refine own_by (V := s₁.setTop (mkF m 15 #[.val (.int p0), .val (.int p1), .val (.int p2), .val (.int p3), .val (.int z1), .unset, .unset, .unset, .unset, .unset] [])) (fun t k => XS.ifYes X0.here hx rfl (pc0 := 8) (pc' := 15) rfl (hb hby at_8) rfl ((if0 _ _).trans (teq hb8_2).1) (by decide) (by decide) k) ?_
    refine own_by (V := s₁.setTop (mkF m 16 #[.val (.int p0), .val (.int p1), .val (.int p2), .val (.int p3), .val (.int z1), .unset, .unset, .unset, .unset, .unset] [(.int (0 : Int32))])) (fun t k => XS.iconst X0.here hx rfl (hb hby at_15) k) ?_
    refine own_by (V := s₁.setTop (mkF m 18 #[.val (.int p0), .val (.int p1), .val (.int p2), .val (.int p3), .val (.int z1), .val (.int (0 : Int32)), .unset, .unset, .unset, .unset] [])) (fun t k => XS.istore X0.here hx rfl (hb hby at_16) rfl (l' := #[.val (.int p0), .val (.int p1), .val (.int p2), .val (.int p3), .val (.int z1), .val (.int (0 : Int32)), .unset, .unset, .unset, .unset]) rfl k) ?_
    refine own_by (V := s₁.setTop (mkF m 19 #[.val (.int p0), .val (.int p1), .val (.int p2), .val (.int p3), .val (.int z1), .val (.int (0 : Int32)), .unset, .unset, .unset, .unset] [.null])) (fun t k => XS.aconstNull X0.here hx rfl (hb hby at_18) k) ?_
    refine own_by (V := s₁.setTop (mkF m 21 #[.val (.int p0), .val (.int p1), .val (.int p2), .val (.int p3), .val (.int z1), .val (.int (0 : Int32)), .val .null, .unset, .unset, .unset] [])) (fun t k => XS.astore X0.here hx rfl (hb hby at_19) rfl rfl (l' := #[.val (.int p0), .val (.int p1), .val (.int p2), .val (.int p3), .val (.int z1), .val (.int (0 : Int32)), .val .null, .unset, .unset, .unset]) rfl k) ?_
    refine own_by (V := s₁.setTop (mkF m 23 #[.val (.int p0), .val (.int p1), .val (.int p2), .val (.int p3), .val (.int z1), .val (.int (0 : Int32)), .val .null, .unset, .unset, .unset] [(.int (0 : Int32))])) (fun t k => XS.iload X0.here hx rfl (hb hby at_21) rfl  k) ?_
    have hb23_3 : ((0 : Int32) = (0 : Int32)) := rfl
    refine own_by (V := s₁.setTop (mkF m 26 #[.val (.int p0), .val (.int p1), .val (.int p2), .val (.int p3), .val (.int z1), .val (.int (0 : Int32)), .val .null, .unset, .unset, .unset] [])) (fun t k => XS.ifNo X0.here hx rfl (hb hby at_23) rfl ((if0 _ _).trans (teq hb23_3).2) k) ?_
    rcases own_and3 p3 with q | q | q | q
    · obtain rfl : z1 = (0 : Int32) := hz1.trans q
      refine own_by (V := s₁.setTop (mkF m 28 #[.val (.int p0), .val (.int p1), .val (.int p2), .val (.int p3), .val (.int (0 : Int32)), .val (.int (0 : Int32)), .val .null, .unset, .unset, .unset] [(.int (0 : Int32))])) (fun t k => XS.iload X0.here hx rfl (hb hby at_26) rfl  k) ?_
      obtain ⟨T4, h4, k4, X4, e4, E4, A4, Ex4, st4⟩ := newPE X0 hx hZ (hw _ (List.mem_of_getElem? (i := 0) rfl)) e0 (g := (mkF m 28 #[.val (.int p0), .val (.int p1), .val (.int p2), .val (.int p3), .val (.int (0 : Int32)), .val (.int (0 : Int32)), .val .null, .unset, .unset, .unset] [(.int (0 : Int32))])) rfl (hb hby at_28) rfl (by decide) (cap := 0) (by decide) (by decide) (by decide) (by decide) (ad := "[I") (by decide)
      obtain ⟨b4, g4⟩ : ∃ z, z = h0.size := ⟨_, rfl⟩
      rw [← g4] at A4 Ex4 st4
      have V4 : Arv Z h4 b4 k4 .int (0 : Int32) [] (.int (0 : Int32)) := (Arv.new A4 (by decide)).pad (pad_rep [] (.int (0 : Int32)) 0)
      have gn4 : n0 ≤ b4 := Nat.le_trans Z0 (Nat.le_of_eq g4.symm)
      have Zs4 : n0 ≤ h4.size := Nat.le_trans Z0 E4.1
      refine own_by (V := T4.setTop (mkF m 30 #[.val (.int p0), .val (.int p1), .val (.int p2), .val (.int p3), .val (.int (0 : Int32)), .val (.int (0 : Int32)), .val .null, .unset, .unset, .unset] [(.ref b4)])) st4 ?_
      refine own_by (V := T4.setTop (mkF m 32 #[.val (.int p0), .val (.int p1), .val (.int p2), .val (.int p3), .val (.int (0 : Int32)), .val (.int (0 : Int32)), .val (.ref b4), .unset, .unset, .unset] [])) (fun t k => XS.astore X4.here hx rfl (hb hby at_30) rfl rfl (l' := #[.val (.int p0), .val (.int p1), .val (.int p2), .val (.int p3), .val (.int (0 : Int32)), .val (.int (0 : Int32)), .val (.ref b4), .unset, .unset, .unset]) rfl k) ?_
      refine own_by (V := T4.setTop (mkF m 34 #[.val (.int p0), .val (.int p1), .val (.int p2), .val (.int p3), .val (.int (0 : Int32)), .val (.int (0 : Int32)), .val (.ref b4), .unset, .unset, .unset] [(.int (0 : Int32))])) (fun t k => XS.iload X4.here hx rfl (hb hby at_32) rfl  k) ?_
      have hb34_5 : ¬ ((0 : Int32) < (0 : Int32)) := by decide
      refine own_by (V := T4.setTop (mkF m 42 #[.val (.int p0), .val (.int p1), .val (.int p2), .val (.int p3), .val (.int (0 : Int32)), .val (.int (0 : Int32)), .val (.ref b4), .unset, .unset, .unset] [])) (fun t k => XS.ifYes X4.here hx rfl (pc0 := 34) (pc' := 42) rfl (hb hby at_34) rfl ((if0 _ _).trans (flt hb34_5).2.2.2) (by decide) (by decide) k) ?_
      refine own_by (V := T4.setTop (mkF m 44 #[.val (.int p0), .val (.int p1), .val (.int p2), .val (.int p3), .val (.int (0 : Int32)), .val (.int (0 : Int32)), .val (.ref b4), .unset, .unset, .unset] [(.int (0 : Int32))])) (fun t k => XS.iload X4.here hx rfl (hb hby at_42) rfl  k) ?_
      refine own_by (V := T4.setTop (mkF m 45 #[.val (.int p0), .val (.int p1), .val (.int p2), .val (.int p3), .val (.int (0 : Int32)), .val (.int (0 : Int32)), .val (.ref b4), .unset, .unset, .unset] [(.int (1 : Int32)), (.int (0 : Int32))])) (fun t k => XS.iconst X4.here hx rfl (hb hby at_44) k) ?_
      have hb45_6 : ¬ ((1 : Int32) < (0 : Int32)) := by decide
      refine own_by (V := T4.setTop (mkF m 53 #[.val (.int p0), .val (.int p1), .val (.int p2), .val (.int p3), .val (.int (0 : Int32)), .val (.int (0 : Int32)), .val (.ref b4), .unset, .unset, .unset] [])) (fun t k => XS.icmpYes X4.here hx rfl (pc0 := 45) (pc' := 53) rfl (hb hby at_45) rfl (flt hb45_6).2.2.2 (by decide) (by decide) k) ?_
      refine own_by (V := T4.setTop (mkF m 55 #[.val (.int p0), .val (.int p1), .val (.int p2), .val (.int p3), .val (.int (0 : Int32)), .val (.int (0 : Int32)), .val (.ref b4), .unset, .unset, .unset] [(.int (0 : Int32))])) (fun t k => XS.iload X4.here hx rfl (hb hby at_53) rfl  k) ?_
      refine own_by (V := T4.setTop (mkF m 56 #[.val (.int p0), .val (.int p1), .val (.int p2), .val (.int p3), .val (.int (0 : Int32)), .val (.int (0 : Int32)), .val (.ref b4), .unset, .unset, .unset] [(.int (2 : Int32)), (.int (0 : Int32))])) (fun t k => XS.iconst X4.here hx rfl (hb hby at_55) k) ?_
      have hb56_7 : ¬ ((2 : Int32) < (0 : Int32)) := by decide
      refine own_by (V := T4.setTop (mkF m 64 #[.val (.int p0), .val (.int p1), .val (.int p2), .val (.int p3), .val (.int (0 : Int32)), .val (.int (0 : Int32)), .val (.ref b4), .unset, .unset, .unset] [])) (fun t k => XS.icmpYes X4.here hx rfl (pc0 := 56) (pc' := 64) rfl (hb hby at_56) rfl (flt hb56_7).2.2.2 (by decide) (by decide) k) ?_
      obtain ⟨T8, h8, X8, e8, E8, A8, D8, -, st8⟩ := newO X4 hx hZ hown (hw _ (List.mem_of_getElem? (i := 1) rfl)) (hw _ (List.mem_of_getElem? (i := 2) rfl)) (hw _ (List.mem_of_getElem? (i := 3) rfl)) e4 (g := (mkF m 64 #[.val (.int p0), .val (.int p1), .val (.int p2), .val (.int p3), .val (.int (0 : Int32)), .val (.int (0 : Int32)), .val (.ref b4), .unset, .unset, .unset] [])) rfl (hb hby at_64) (by decide) (by decide)
      obtain ⟨b8, g8⟩ : ∃ z, z = h4.size := ⟨_, rfl⟩
      rw [← g8] at A8 D8 st8
      have ne9 : b4 ≠ b8 := Nat.ne_of_lt (Nat.lt_of_lt_of_le Ex4.lt (Nat.le_of_eq g8.symm))
      have f10 := Ex4.ext E8
      have f11 := V4.ext E8
      have f14 : Fld Z h8 b8 "com/example/nocord/nocord/model/Snapshot" "timestamp" "Lcom/example/nocord/nocord/model/Timestamp;" .null := D8 (Or.inr (hw _ (List.mem_of_getElem? (i := 22) rfl))) (ty := (.object "com/example/nocord/nocord/model/Timestamp")) (by decide)
      have f15 : Fld Z h8 b8 "com/example/nocord/nocord/model/Snapshot" "installing" "[I" .null := D8 (Or.inr (hw _ (List.mem_of_getElem? (i := 33) rfl))) (ty := (.array .int)) (by decide)
      have gn8 : n0 ≤ b8 := Nat.le_trans Zs4 (Nat.le_of_eq g8.symm)
      have Zs8 : n0 ≤ h8.size := Nat.le_trans Zs4 E8.1
      refine own_by (V := T8.setTop (mkF m 67 #[.val (.int p0), .val (.int p1), .val (.int p2), .val (.int p3), .val (.int (0 : Int32)), .val (.int (0 : Int32)), .val (.ref b4), .unset, .unset, .unset] [(.ref b8)])) st8 ?_
      refine own_by (V := T8.setTop (mkF m 68 #[.val (.int p0), .val (.int p1), .val (.int p2), .val (.int p3), .val (.int (0 : Int32)), .val (.int (0 : Int32)), .val (.ref b4), .unset, .unset, .unset] [(.ref b8), (.ref b8)])) (fun t k => XS.dup X8.here hx rfl (hb hby at_67) rfl rfl k) ?_
      obtain ⟨T16, h16, X16, e16, E16, A16, D16, -, st16⟩ := newO X8 hx hZ hown (hw _ (List.mem_of_getElem? (i := 4) rfl)) (hw _ (List.mem_of_getElem? (i := 5) rfl)) (hw _ (List.mem_of_getElem? (i := 6) rfl)) e8 (g := (mkF m 68 #[.val (.int p0), .val (.int p1), .val (.int p2), .val (.int p3), .val (.int (0 : Int32)), .val (.int (0 : Int32)), .val (.ref b4), .unset, .unset, .unset] [(.ref b8), (.ref b8)])) rfl (hb hby at_68) (by decide) (by decide)
      obtain ⟨b16, g16⟩ : ∃ z, z = h8.size := ⟨_, rfl⟩
      rw [← g16] at A16 D16 st16
      have ne17 : b4 ≠ b16 := Nat.ne_of_lt (Nat.lt_of_lt_of_le f10.lt (Nat.le_of_eq g16.symm))
      have ne18 : b8 ≠ b16 := Nat.ne_of_lt (Nat.lt_of_lt_of_le A8.lt (Nat.le_of_eq g16.symm))
      have f19 := f10.ext E16
      have f20 := f11.ext E16
      have f23 := A8.ext E16
      have f24 := f14.ext E16
      have f25 := f15.ext E16
      have f29 : Fld Z h16 b16 "com/example/nocord/nocord/model/Timestamp" "time" "J" (.long (0 : Int64)) := D16 (Or.inr (hw _ (List.mem_of_getElem? (i := 14) rfl))) (ty := .long) (by decide)
      have f30 : Fld Z h16 b16 "com/example/nocord/nocord/model/Timestamp" "client" "J" (.long (0 : Int64)) := D16 (Or.inr (hw _ (List.mem_of_getElem? (i := 16) rfl))) (ty := .long) (by decide)
      have gn16 : n0 ≤ b16 := Nat.le_trans Zs8 (Nat.le_of_eq g16.symm)
      have Zs16 : n0 ≤ h16.size := Nat.le_trans Zs8 E16.1
      refine own_by (V := T16.setTop (mkF m 71 #[.val (.int p0), .val (.int p1), .val (.int p2), .val (.int p3), .val (.int (0 : Int32)), .val (.int (0 : Int32)), .val (.ref b4), .unset, .unset, .unset] [(.ref b16), (.ref b8), (.ref b8)])) st16 ?_
      refine own_by (V := T16.setTop (mkF m 72 #[.val (.int p0), .val (.int p1), .val (.int p2), .val (.int p3), .val (.int (0 : Int32)), .val (.int (0 : Int32)), .val (.ref b4), .unset, .unset, .unset] [(.ref b16), (.ref b16), (.ref b8), (.ref b8)])) (fun t k => XS.dup X16.here hx rfl (hb hby at_71) rfl rfl k) ?_
      refine own_by (V := T16.setTop (mkF m 73 #[.val (.int p0), .val (.int p1), .val (.int p2), .val (.int p3), .val (.int (0 : Int32)), .val (.int (0 : Int32)), .val (.ref b4), .unset, .unset, .unset] [(.int p0), (.ref b16), (.ref b16), (.ref b8), (.ref b8)])) (fun t k => XS.iloadN X16.here hx rfl (hb hby at_72) rfl  k) ?_
      refine own_by (V := T16.setTop (mkF m 74 #[.val (.int p0), .val (.int p1), .val (.int p2), .val (.int p3), .val (.int (0 : Int32)), .val (.int (0 : Int32)), .val (.ref b4), .unset, .unset, .unset] [(.long (p0.toInt64)), (.ref b16), (.ref b16), (.ref b8), (.ref b8)])) (fun t k => XS.i2l X16.here hx rfl (hb hby at_73) rfl k) ?_
      refine own_by (V := T16.setTop (mkF m 75 #[.val (.int p0), .val (.int p1), .val (.int p2), .val (.int p3), .val (.int (0 : Int32)), .val (.int (0 : Int32)), .val (.ref b4), .unset, .unset, .unset] [(.int p1), (.long (p0.toInt64)), (.ref b16), (.ref b16), (.ref b8), (.ref b8)])) (fun t k => XS.iloadN X16.here hx rfl (hb hby at_74) rfl  k) ?_
      refine own_by (V := T16.setTop (mkF m 76 #[.val (.int p0), .val (.int p1), .val (.int p2), .val (.int p3), .val (.int (0 : Int32)), .val (.int (0 : Int32)), .val (.ref b4), .unset, .unset, .unset] [(.long (p1.toInt64)), (.long (p0.toInt64)), (.ref b16), (.ref b16), (.ref b8), (.ref b8)])) (fun t k => XS.i2l X16.here hx rfl (hb hby at_75) rfl k) ?_
      obtain ⟨_, _, ⟨T31, Lq31, kq31, nq31⟩, -, X31, ⟨Lc31, hQ31, lq31, yq31, zq31⟩, st31⟩ := X16.specialBack hx (y := (⟨"com/example/nocord/nocord/model/Timestamp", "<init>", "(JJ)V"⟩ : MethodName)) rfl hown (mvT hZ (hw _ (List.mem_of_getElem? (i := 7) rfl))) (mvT hZ (hw _ (List.mem_of_getElem? (i := 8) rfl))) (mvT hZ (hw _ (List.mem_of_getElem? (i := 9) rfl))) (by decide) (backOf (W := 3) (own_tinit l Z a0 hw [] b16 (p0.toInt64) (p1.toInt64) h16 n0 Zs16 gn16 A16 f29 f30) hZ (hw _ (List.mem_of_getElem? (i := 9) rfl)) (hw _ (List.mem_of_getElem? (i := 6) rfl)) (by decide) (by decide)) (g := (mkF m 76 #[.val (.int p0), .val (.int p1), .val (.int p2), .val (.int p3), .val (.int (0 : Int32)), .val (.int (0 : Int32)), .val (.ref b4), .unset, .unset, .unset] [(.long (p1.toInt64)), (.long (p0.toInt64)), (.ref b16), (.ref b16), (.ref b8), (.ref b8)])) rfl (by rw [hml]; rfl) (Steps.refl _) (a := b16) (argsL := [(.long (p0.toInt64)), (.long (p1.toInt64))]) (rest := [(.ref b16), (.ref b8), (.ref b8)]) (lenOf own_pd5 rfl) rfl (by show 2 * 0 + _ ≤ _; exact Nat.le_of_eq rfl) (hb hby at_76) (fun _ _ => ⟨rfl, e16, (by decide : 3 + 0 ≤ _), (by decide : 4 + 0 ≤ _)⟩)
      dsimp only [Pt.U, Pt.locs, Pt.cells, Pt.slots] at X31 lq31 yq31 zq31 st31 hQ31
      subst lq31 yq31 zq31
      obtain ⟨rfl, N31q, Kc31, Ec31, g31_0, g31_1⟩ := hQ31
      have N31 := Fr.app N0 N31q
      have f32 := f19.keep Kc31
      have f33 := f20.keep Kc31 (ninS ne17 nin0)
      have f34 := f23.keep Kc31
      have f35 := f24.keep Kc31 (ninS ne18 nin0)
      have f36 := f25.keep Kc31 (ninS ne18 nin0)
      have Zs31 : n0 ≤ T31.heap.size := Nat.le_trans Zs16 Kc31.1
      refine own_by (V := T31.setTop (mkF m 79 #[.val (.int p0), .val (.int p1), .val (.int p2), .val (.int p3), .val (.int (0 : Int32)), .val (.int (0 : Int32)), .val (.ref b4), .unset, .unset, .unset] [(.ref b16), (.ref b8), (.ref b8)])) (fun t k => st31.trans k) ?_
      refine own_by (V := T31.setTop (mkF m 81 #[.val (.int p0), .val (.int p1), .val (.int p2), .val (.int p3), .val (.int (0 : Int32)), .val (.int (0 : Int32)), .val (.ref b4), .unset, .unset, .unset] [(.ref b4), (.ref b16), (.ref b8), (.ref b8)])) (fun t k => XS.aload X31.here hx rfl (hb hby at_79) rfl rfl k) ?_
      obtain ⟨_, _, ⟨T37, Lq37, kq37, nq37⟩, -, X37, ⟨Lc37, hQ37, lq37, yq37, zq37⟩, st37⟩ := X31.specialBack hx (y := (⟨"com/example/nocord/nocord/model/Snapshot", "<init>", "(Lcom/example/nocord/nocord/model/Timestamp;[I)V"⟩ : MethodName)) rfl hown (mvT hZ (hw _ (List.mem_of_getElem? (i := 17) rfl))) (mvT hZ (hw _ (List.mem_of_getElem? (i := 18) rfl))) (mvT hZ (hw _ (List.mem_of_getElem? (i := 19) rfl))) (by decide) (backOf (W := 1) (own_snap_0 l Z a0 hw [] b8 b16 b4 k4 T31.heap n0 Zs31 gn8 f34 f35 f36 f33 f32 ne9) hZ (hw _ (List.mem_of_getElem? (i := 19) rfl)) (hw _ (List.mem_of_getElem? (i := 3) rfl)) (by decide) (by decide)) (g := (mkF m 81 #[.val (.int p0), .val (.int p1), .val (.int p2), .val (.int p3), .val (.int (0 : Int32)), .val (.int (0 : Int32)), .val (.ref b4), .unset, .unset, .unset] [(.ref b4), (.ref b16), (.ref b8), (.ref b8)])) rfl (by rw [hml]; rfl) (Steps.refl _) (a := b8) (argsL := [(.ref b16), (.ref b4)]) (rest := [(.ref b8)]) (lenOf own_pd6 rfl) rfl (by show 2 * 0 + _ ≤ _; exact Nat.le_of_eq rfl) (hb hby at_81) (fun _ _ => ⟨rfl, rfl, (by decide : 3 + 1 ≤ _), (by decide : 4 + 0 ≤ _)⟩)
      dsimp only [Pt.U, Pt.locs, Pt.cells, Pt.slots] at X37 lq37 yq37 zq37 st37 hQ37
      subst lq37 yq37 zq37
      obtain ⟨b37, rfl, N37q, Kc37, hf37_b, g37_0, g37_1, g37_2, g37_3, g37_4⟩ := hQ37
      have N37 := Fr.app N31 N37q
      have ne38 : b4 ≠ b37 := Nat.ne_of_lt (Nat.lt_of_lt_of_le f32.lt hf37_b)
      have ne39 : b8 ≠ b37 := Nat.ne_of_lt (Nat.lt_of_lt_of_le f34.lt hf37_b)
      have ne40 : b16 ≠ b37 := Nat.ne_of_lt (Nat.lt_of_lt_of_le Ec31.lt hf37_b)
      have gn37_b : n0 ≤ b37 := Nat.le_trans Zs31 hf37_b
      have f41 := f32.keep Kc37
      have f42 := f33.keep Kc37 (ninS ne9 nin0)
      have f43 := f34.keep Kc37
      have f46 := Ec31.keep Kc37
      have f47 := g31_0.keep Kc37 (ninS (Ne.symm ne18) nin0)
      have f48 := g31_1.keep Kc37 (ninS (Ne.symm ne18) nin0)
      have Zs37 : n0 ≤ T37.heap.size := Nat.le_trans Zs31 Kc37.1
      refine own_by (V := T37.setTop (mkF m 84 #[.val (.int p0), .val (.int p1), .val (.int p2), .val (.int p3), .val (.int (0 : Int32)), .val (.int (0 : Int32)), .val (.ref b4), .unset, .unset, .unset] [(.ref b8)])) (fun t k => st37.trans k) ?_
      refine own_by (V := T37.setTop (mkF m 86 #[.val (.int p0), .val (.int p1), .val (.int p2), .val (.int p3), .val (.int (0 : Int32)), .val (.int (0 : Int32)), .val (.ref b4), .val (.ref b8), .unset, .unset] [])) (fun t k => XS.astore X37.here hx rfl (hb hby at_84) rfl rfl (l' := #[.val (.int p0), .val (.int p1), .val (.int p2), .val (.int p3), .val (.int (0 : Int32)), .val (.int (0 : Int32)), .val (.ref b4), .val (.ref b8), .unset, .unset]) rfl k) ?_
      refine own_by (V := T37.setTop (mkF m 88 #[.val (.int p0), .val (.int p1), .val (.int p2), .val (.int p3), .val (.int (0 : Int32)), .val (.int (0 : Int32)), .val (.ref b4), .val (.ref b8), .unset, .unset] [(.ref b8)])) (fun t k => XS.aload X37.here hx rfl (hb hby at_86) rfl rfl k) ?_
      obtain ⟨cq50, kq50, q50a, q50b, q50c⟩ := isOf hZ rfl g37_0
      obtain ⟨_, _, ⟨T49, Lq49, kq49, nq49⟩, -, X49, ⟨Lc49, hQ49, lq49, yq49, zq49⟩, st49⟩ := X37.virtualBack hx (y := (⟨"com/example/nocord/nocord/model/Snapshot", "installingHashes", "()[I"⟩ : MethodName)) (z := (⟨"com/example/nocord/nocord/model/Snapshot", "installingHashes", "()[I"⟩ : MethodName)) hown (mvT hZ (hw _ (List.mem_of_getElem? (i := 48) rfl))) (mvT hZ (hw _ (List.mem_of_getElem? (i := 49) rfl))) (notFace_of_selects (args := #[]) (mvT hZ (hw _ (List.mem_of_getElem? (i := 51) rfl)))) (mvT hZ (hw _ (List.mem_of_getElem? (i := 51) rfl))) (mvT hZ (hw _ (List.mem_of_getElem? (i := 50) rfl))) (by decide) (backOf (W := 0) (own_hash_0 l Z a0 hw [] b8 b37 k4 T37.heap n0 Zs37 g37_2 g37_3 g37_4) hZ (hw _ (List.mem_of_getElem? (i := 52) rfl)) (hw _ (List.mem_of_getElem? (i := 3) rfl)) (by decide) (by decide)) q50a q50c (g := (mkF m 88 #[.val (.int p0), .val (.int p1), .val (.int p2), .val (.int p3), .val (.int (0 : Int32)), .val (.int (0 : Int32)), .val (.ref b4), .val (.ref b8), .unset, .unset] [(.ref b8)])) rfl (by rw [hml]; rfl) (Steps.refl _) (argsL := []) (rest := []) (lenOf own_pd7 rfl) rfl (by show 2 * 0 + _ ≤ _; exact Nat.le_of_eq rfl) (hb hby at_88) (fun _ _ => ⟨rfl, rfl, (by decide : 4 + 1 ≤ _), (by decide : 4 + 0 ≤ _)⟩)
      dsimp only [Pt.U, Pt.locs, Pt.cells, Pt.slots] at X49 lq49 yq49 zq49 st49 hQ49
      subst lq49 yq49 zq49
      obtain ⟨r49, rfl, N49q, Kc49, hf49_r, g49_0, g49_1⟩ := hQ49
      have N49 := Fr.app N37 N49q
      have ne51 : b4 ≠ r49 := Nat.ne_of_lt (Nat.lt_of_lt_of_le f41.lt hf49_r)
      have ne52 : b8 ≠ r49 := Nat.ne_of_lt (Nat.lt_of_lt_of_le g37_0.lt hf49_r)
      have ne53 : b16 ≠ r49 := Nat.ne_of_lt (Nat.lt_of_lt_of_le f46.lt hf49_r)
      have ne54 : b37 ≠ r49 := Nat.ne_of_lt (Nat.lt_of_lt_of_le g37_3.lt hf49_r)
      have gn49_r : n0 ≤ r49 := Nat.le_trans Zs37 hf49_r
      have f55 := f41.keep Kc49
      have f56 := f42.keep Kc49 nin0
      have f57 := g37_0.keep Kc49
      have f58 := f46.keep Kc49
      have f59 := f47.keep Kc49 nin0
      have f60 := f48.keep Kc49 nin0
      have f61 := g37_1.keep Kc49 nin0
      have f62 := g37_2.keep Kc49 nin0
      have f63 := g37_3.keep Kc49 nin0
      have f64 := g37_4.keep Kc49
      have Zs49 : n0 ≤ T49.heap.size := Nat.le_trans Zs37 Kc49.1
      refine own_by (V := T49.setTop (mkF m 91 #[.val (.int p0), .val (.int p1), .val (.int p2), .val (.int p3), .val (.int (0 : Int32)), .val (.int (0 : Int32)), .val (.ref b4), .val (.ref b8), .unset, .unset] [(.ref r49)])) (fun t k => st49.trans k) ?_
      refine own_by (V := T49.setTop (mkF m 93 #[.val (.int p0), .val (.int p1), .val (.int p2), .val (.int p3), .val (.int (0 : Int32)), .val (.int (0 : Int32)), .val (.ref b4), .val (.ref b8), .val (.ref r49), .unset] [])) (fun t k => XS.astore X49.here hx rfl (hb hby at_91) rfl rfl (l' := #[.val (.int p0), .val (.int p1), .val (.int p2), .val (.int p3), .val (.int (0 : Int32)), .val (.int (0 : Int32)), .val (.ref b4), .val (.ref b8), .val (.ref r49), .unset]) rfl k) ?_
      refine own_by (V := T49.setTop (mkF m 95 #[.val (.int p0), .val (.int p1), .val (.int p2), .val (.int p3), .val (.int (0 : Int32)), .val (.int (0 : Int32)), .val (.ref b4), .val (.ref b8), .val (.ref r49), .unset] [(.int (0 : Int32))])) (fun t k => XS.iload X49.here hx rfl (hb hby at_93) rfl  k) ?_
      have hb95_65 : ((0 : Int32) = (0 : Int32)) := rfl
      refine own_by (V := T49.setTop (mkF m 117 #[.val (.int p0), .val (.int p1), .val (.int p2), .val (.int p3), .val (.int (0 : Int32)), .val (.int (0 : Int32)), .val (.ref b4), .val (.ref b8), .val (.ref r49), .unset] [])) (fun t k => XS.ifYes X49.here hx rfl (pc0 := 95) (pc' := 117) rfl (hb hby at_95) rfl ((if0 _ _).trans (teq hb95_65).1) (by decide) (by decide) k) ?_
      refine own_by (V := T49.setTop (mkF m 119 #[.val (.int p0), .val (.int p1), .val (.int p2), .val (.int p3), .val (.int (0 : Int32)), .val (.int (0 : Int32)), .val (.ref b4), .val (.ref b8), .val (.ref r49), .unset] [(.ref r49)])) (fun t k => XS.aload X49.here hx rfl (hb hby at_117) rfl rfl k) ?_
      refine own_by (V := T49.setTop (mkF m 121 #[.val (.int p0), .val (.int p1), .val (.int p2), .val (.int p3), .val (.int (0 : Int32)), .val (.int (0 : Int32)), .val (.ref b4), .val (.ref b8), .val (.ref r49), .unset] [(.int (0 : Int32)), (.ref r49)])) (fun t k => XS.iload X49.here hx rfl (hb hby at_119) rfl  k) ?_
      refine own_by (V := T49.setTop (mkF m 122 #[.val (.int p0), .val (.int p1), .val (.int p2), .val (.int p3), .val (.int (0 : Int32)), .val (.int (0 : Int32)), .val (.ref b4), .val (.ref b8), .val (.ref r49), .unset] [(.int p0), (.int (0 : Int32)), (.ref r49)])) (fun t k => XS.iloadN X49.here hx rfl (hb hby at_121) rfl  k) ?_
      refine own_by (V := T49.setTop (mkF m 123 #[.val (.int p0), .val (.int p1), .val (.int p2), .val (.int p3), .val (.int (0 : Int32)), .val (.int (0 : Int32)), .val (.ref b4), .val (.ref b8), .val (.ref r49), .unset] [(.int p1), (.int p0), (.int (0 : Int32)), (.ref r49)])) (fun t k => XS.iloadN X49.here hx rfl (hb hby at_122) rfl  k) ?_
      refine own_by (V := T49.setTop (mkF m 124 #[.val (.int p0), .val (.int p1), .val (.int p2), .val (.int p3), .val (.int (0 : Int32)), .val (.int (0 : Int32)), .val (.ref b4), .val (.ref b8), .val (.ref r49), .unset] [(.int p2), (.int p1), (.int p0), (.int (0 : Int32)), (.ref r49)])) (fun t k => XS.iloadN X49.here hx rfl (hb hby at_123) rfl  k) ?_
      obtain ⟨_, _, ⟨T66, Lq66, kq66, nq66⟩, -, X66, ⟨Lc66, hQ66, lq66, yq66, zq66⟩, st66⟩ := Jvm.LawKit.callS X49 hx (y := (⟨"com/example/nocord/nocord/model/SnapshotInstallingHashesPinLaw", "matches", "([IIIII)Z"⟩ : MethodName)) hown (mvT hZ (hw _ (List.mem_of_getElem? (i := 53) rfl))) (mvT hZ (hw _ (List.mem_of_getElem? (i := 54) rfl))) (mvT hZ (hw _ (List.mem_of_getElem? (i := 55) rfl))) (mvT hZ (hw _ (List.mem_of_getElem? (i := 56) rfl))) (by decide) (backOf (W := 0) (own_match_0 l Z a0 hw [] r49 p0 p1 p2 k4 T49.heap n0 g49_0) hZ (hw _ (List.mem_of_getElem? (i := 56) rfl)) (hw _ (List.mem_of_getElem? (i := 55) rfl)) (by decide) (by decide)) (g := (mkF m 124 #[.val (.int p0), .val (.int p1), .val (.int p2), .val (.int p3), .val (.int (0 : Int32)), .val (.int (0 : Int32)), .val (.ref b4), .val (.ref b8), .val (.ref r49), .unset] [(.int p2), (.int p1), (.int p0), (.int (0 : Int32)), (.ref r49)])) rfl (by rw [hml]; rfl) (argsL := [(.ref r49), (.int (0 : Int32)), (.int p0), (.int p1), (.int p2)]) (rest := []) (lenOf own_pd8 rfl) rfl (by show 2 * 0 + _ ≤ _; exact Nat.le_of_eq rfl) (hb hby at_124) (fun _ _ => ⟨rfl, rfl, (by decide : 5 + 0 ≤ _), (by decide : 4 + 0 ≤ _)⟩)
      dsimp only [Pt.U, Pt.locs, Pt.cells, Pt.slots] at X66 lq66 yq66 zq66 st66 hQ66
      subst lq66 yq66 zq66
      obtain ⟨rfl, N66q, e66⟩ := hQ66
      have N66 := Fr.app N49 N66q
      refine own_by (V := T66.setTop (mkF m 127 #[.val (.int p0), .val (.int p1), .val (.int p2), .val (.int p3), .val (.int (0 : Int32)), .val (.int (0 : Int32)), .val (.ref b4), .val (.ref b8), .val (.ref r49), .unset] [(.int (1 : Int32))])) st66 ?_
      have hb127_67 : ¬ ((1 : Int32) = (0 : Int32)) := by decide
      refine own_by (V := T66.setTop (mkF m 132 #[.val (.int p0), .val (.int p1), .val (.int p2), .val (.int p3), .val (.int (0 : Int32)), .val (.int (0 : Int32)), .val (.ref b4), .val (.ref b8), .val (.ref r49), .unset] [])) (fun t k => XS.ifYes X66.here hx rfl (pc0 := 127) (pc' := 132) rfl (hb hby at_127) rfl ((if0 _ _).trans (feq hb127_67).2) (by decide) (by decide) k) ?_
      refine own_by (V := T66.setTop (mkF m 134 #[.val (.int p0), .val (.int p1), .val (.int p2), .val (.int p3), .val (.int (0 : Int32)), .val (.int (0 : Int32)), .val (.ref b4), .val (.ref b8), .val (.ref r49), .unset] [(.int (0 : Int32))])) (fun t k => XS.iload X66.here hx rfl (hb hby at_132) rfl  k) ?_
      have hb134_68 : ¬ ((0 : Int32) < (0 : Int32)) := by decide
      refine own_by (V := T66.setTop (mkF m 157 #[.val (.int p0), .val (.int p1), .val (.int p2), .val (.int p3), .val (.int (0 : Int32)), .val (.int (0 : Int32)), .val (.ref b4), .val (.ref b8), .val (.ref r49), .unset] [])) (fun t k => XS.ifYes X66.here hx rfl (pc0 := 134) (pc' := 157) rfl (hb hby at_134) rfl ((if0 _ _).trans (flt hb134_68).2.2.2) (by decide) (by decide) k) ?_
      refine own_by (V := T66.setTop (mkF m 159 #[.val (.int p0), .val (.int p1), .val (.int p2), .val (.int p3), .val (.int (0 : Int32)), .val (.int (0 : Int32)), .val (.ref b4), .val (.ref b8), .val (.ref r49), .unset] [(.ref b8)])) (fun t k => XS.aload X66.here hx rfl (hb hby at_157) rfl rfl k) ?_
      obtain ⟨cq70, kq70, q70a, q70b, q70c⟩ := isOf hZ e66 f57
      obtain ⟨_, _, ⟨T69, Lq69, kq69, nq69⟩, -, X69, ⟨Lc69, hQ69, lq69, yq69, zq69⟩, st69⟩ := X66.virtualBack hx (y := (⟨"com/example/nocord/nocord/model/Snapshot", "installingHashes", "()[I"⟩ : MethodName)) (z := (⟨"com/example/nocord/nocord/model/Snapshot", "installingHashes", "()[I"⟩ : MethodName)) hown (mvT hZ (hw _ (List.mem_of_getElem? (i := 48) rfl))) (mvT hZ (hw _ (List.mem_of_getElem? (i := 49) rfl))) (notFace_of_selects (args := #[]) (mvT hZ (hw _ (List.mem_of_getElem? (i := 51) rfl)))) (mvT hZ (hw _ (List.mem_of_getElem? (i := 51) rfl))) (mvT hZ (hw _ (List.mem_of_getElem? (i := 50) rfl))) (by decide) (backOf (W := 0) (own_hash_0 l Z a0 hw [] b8 b37 k4 T49.heap n0 Zs49 f62 f63 f64) hZ (hw _ (List.mem_of_getElem? (i := 52) rfl)) (hw _ (List.mem_of_getElem? (i := 3) rfl)) (by decide) (by decide)) q70a q70c (g := (mkF m 159 #[.val (.int p0), .val (.int p1), .val (.int p2), .val (.int p3), .val (.int (0 : Int32)), .val (.int (0 : Int32)), .val (.ref b4), .val (.ref b8), .val (.ref r49), .unset] [(.ref b8)])) rfl (by rw [hml]; rfl) (Steps.refl _) (argsL := []) (rest := []) (lenOf own_pd7 rfl) rfl (by show 2 * 0 + _ ≤ _; exact Nat.le_of_eq rfl) (hb hby at_159) (fun _ _ => ⟨rfl, e66, (by decide : 5 + 1 ≤ _), (by decide : 4 + 0 ≤ _)⟩)
      dsimp only [Pt.U, Pt.locs, Pt.cells, Pt.slots] at X69 lq69 yq69 zq69 st69 hQ69
      subst lq69 yq69 zq69
      obtain ⟨r69, rfl, N69q, Kc69, hf69_r, g69_0, g69_1⟩ := hQ69
      have N69 := Fr.app N66 N69q
      have ne71 : b4 ≠ r69 := Nat.ne_of_lt (Nat.lt_of_lt_of_le f55.lt hf69_r)
      have ne72 : b8 ≠ r69 := Nat.ne_of_lt (Nat.lt_of_lt_of_le f57.lt hf69_r)
      have ne73 : b16 ≠ r69 := Nat.ne_of_lt (Nat.lt_of_lt_of_le f58.lt hf69_r)
      have ne74 : b37 ≠ r69 := Nat.ne_of_lt (Nat.lt_of_lt_of_le f63.lt hf69_r)
      have ne75 : r49 ≠ r69 := Nat.ne_of_lt (Nat.lt_of_lt_of_le g49_0.lt hf69_r)
      have gn69_r : n0 ≤ r69 := Nat.le_trans Zs49 hf69_r
      have f76 := f55.keep Kc69
      have f77 := f56.keep Kc69 nin0
      have f78 := f57.keep Kc69
      have f79 := f58.keep Kc69
      have f80 := f59.keep Kc69 nin0
      have f81 := f60.keep Kc69 nin0
      have f82 := f61.keep Kc69 nin0
      have f83 := f62.keep Kc69 nin0
      have f84 := f63.keep Kc69 nin0
      have f85 := f64.keep Kc69
      have f86 := g49_0.keep Kc69 nin0
      have f87 := g49_1.keep Kc69
      have Zs69 : n0 ≤ T69.heap.size := Nat.le_trans Zs49 Kc69.1
      refine own_by (V := T69.setTop (mkF m 162 #[.val (.int p0), .val (.int p1), .val (.int p2), .val (.int p3), .val (.int (0 : Int32)), .val (.int (0 : Int32)), .val (.ref b4), .val (.ref b8), .val (.ref r49), .unset] [(.ref r69)])) (fun t k => st69.trans k) ?_
      refine own_by (V := T69.setTop (mkF m 164 #[.val (.int p0), .val (.int p1), .val (.int p2), .val (.int p3), .val (.int (0 : Int32)), .val (.int (0 : Int32)), .val (.ref b4), .val (.ref b8), .val (.ref r49), .val (.ref r69)] [])) (fun t k => XS.astore X69.here hx rfl (hb hby at_162) rfl rfl (l' := #[.val (.int p0), .val (.int p1), .val (.int p2), .val (.int p3), .val (.int (0 : Int32)), .val (.int (0 : Int32)), .val (.ref b4), .val (.ref b8), .val (.ref r49), .val (.ref r69)]) rfl k) ?_
      refine own_by (V := T69.setTop (mkF m 166 #[.val (.int p0), .val (.int p1), .val (.int p2), .val (.int p3), .val (.int (0 : Int32)), .val (.int (0 : Int32)), .val (.ref b4), .val (.ref b8), .val (.ref r49), .val (.ref r69)] [(.ref r69)])) (fun t k => XS.aload X69.here hx rfl (hb hby at_164) rfl rfl k) ?_
      refine own_by (V := T69.setTop (mkF m 168 #[.val (.int p0), .val (.int p1), .val (.int p2), .val (.int p3), .val (.int (0 : Int32)), .val (.int (0 : Int32)), .val (.ref b4), .val (.ref b8), .val (.ref r49), .val (.ref r69)] [(.int (0 : Int32)), (.ref r69)])) (fun t k => XS.iload X69.here hx rfl (hb hby at_166) rfl  k) ?_
      refine own_by (V := T69.setTop (mkF m 169 #[.val (.int p0), .val (.int p1), .val (.int p2), .val (.int p3), .val (.int (0 : Int32)), .val (.int (0 : Int32)), .val (.ref b4), .val (.ref b8), .val (.ref r49), .val (.ref r69)] [(.int p0), (.int (0 : Int32)), (.ref r69)])) (fun t k => XS.iloadN X69.here hx rfl (hb hby at_168) rfl  k) ?_
      refine own_by (V := T69.setTop (mkF m 170 #[.val (.int p0), .val (.int p1), .val (.int p2), .val (.int p3), .val (.int (0 : Int32)), .val (.int (0 : Int32)), .val (.ref b4), .val (.ref b8), .val (.ref r49), .val (.ref r69)] [(.int p1), (.int p0), (.int (0 : Int32)), (.ref r69)])) (fun t k => XS.iloadN X69.here hx rfl (hb hby at_169) rfl  k) ?_
      refine own_by (V := T69.setTop (mkF m 171 #[.val (.int p0), .val (.int p1), .val (.int p2), .val (.int p3), .val (.int (0 : Int32)), .val (.int (0 : Int32)), .val (.ref b4), .val (.ref b8), .val (.ref r49), .val (.ref r69)] [(.int p2), (.int p1), (.int p0), (.int (0 : Int32)), (.ref r69)])) (fun t k => XS.iloadN X69.here hx rfl (hb hby at_170) rfl  k) ?_
      obtain ⟨_, _, ⟨T88, Lq88, kq88, nq88⟩, -, X88, ⟨Lc88, hQ88, lq88, yq88, zq88⟩, st88⟩ := Jvm.LawKit.callS X69 hx (y := (⟨"com/example/nocord/nocord/model/SnapshotInstallingHashesPinLaw", "matches", "([IIIII)Z"⟩ : MethodName)) hown (mvT hZ (hw _ (List.mem_of_getElem? (i := 53) rfl))) (mvT hZ (hw _ (List.mem_of_getElem? (i := 54) rfl))) (mvT hZ (hw _ (List.mem_of_getElem? (i := 55) rfl))) (mvT hZ (hw _ (List.mem_of_getElem? (i := 56) rfl))) (by decide) (backOf (W := 0) (own_match_0 l Z a0 hw [] r69 p0 p1 p2 k4 T69.heap n0 g69_0) hZ (hw _ (List.mem_of_getElem? (i := 56) rfl)) (hw _ (List.mem_of_getElem? (i := 55) rfl)) (by decide) (by decide)) (g := (mkF m 171 #[.val (.int p0), .val (.int p1), .val (.int p2), .val (.int p3), .val (.int (0 : Int32)), .val (.int (0 : Int32)), .val (.ref b4), .val (.ref b8), .val (.ref r49), .val (.ref r69)] [(.int p2), (.int p1), (.int p0), (.int (0 : Int32)), (.ref r69)])) rfl (by rw [hml]; rfl) (argsL := [(.ref r69), (.int (0 : Int32)), (.int p0), (.int p1), (.int p2)]) (rest := []) (lenOf own_pd8 rfl) rfl (by show 2 * 0 + _ ≤ _; exact Nat.le_of_eq rfl) (hb hby at_171) (fun _ _ => ⟨rfl, rfl, (by decide : 6 + 0 ≤ _), (by decide : 4 + 0 ≤ _)⟩)
      dsimp only [Pt.U, Pt.locs, Pt.cells, Pt.slots] at X88 lq88 yq88 zq88 st88 hQ88
      subst lq88 yq88 zq88
      obtain ⟨rfl, N88q, e88⟩ := hQ88
      have N88 := Fr.app N69 N88q
      refine own_by (V := T88.setTop (mkF m 174 #[.val (.int p0), .val (.int p1), .val (.int p2), .val (.int p3), .val (.int (0 : Int32)), .val (.int (0 : Int32)), .val (.ref b4), .val (.ref b8), .val (.ref r49), .val (.ref r69)] [(.int (1 : Int32))])) st88 ?_
      refine own_retN X88 hx hlk e88 Bd.returns (t := .boolean) (by simp) rfl (hb hby at_174) ?_ (by decide) (by decide)
      exact ⟨rfl, N88⟩
    · obtain rfl : z1 = (1 : Int32) := hz1.trans q
      refine own_by (V := s₁.setTop (mkF m 28 #[.val (.int p0), .val (.int p1), .val (.int p2), .val (.int p3), .val (.int (1 : Int32)), .val (.int (0 : Int32)), .val .null, .unset, .unset, .unset] [(.int (1 : Int32))])) (fun t k => XS.iload X0.here hx rfl (hb hby at_26) rfl  k) ?_
      obtain ⟨T89, h89, k89, X89, e89, E89, A89, Ex89, st89⟩ := newPE X0 hx hZ (hw _ (List.mem_of_getElem? (i := 0) rfl)) e0 (g := (mkF m 28 #[.val (.int p0), .val (.int p1), .val (.int p2), .val (.int p3), .val (.int (1 : Int32)), .val (.int (0 : Int32)), .val .null, .unset, .unset, .unset] [(.int (1 : Int32))])) rfl (hb hby at_28) rfl (by decide) (cap := 1) (by decide) (by decide) (by decide) (by decide) (ad := "[I") (by decide)
      obtain ⟨b89, g89⟩ : ∃ z, z = h0.size := ⟨_, rfl⟩
      rw [← g89] at A89 Ex89 st89
      have V89 : Arv Z h89 b89 k89 .int (1 : Int32) [(.int (0 : Int32))] (.int (0 : Int32)) := (Arv.new A89 (by decide)).pad (pad_rep [] (.int (0 : Int32)) 1)
      have gn89 : n0 ≤ b89 := Nat.le_trans Z0 (Nat.le_of_eq g89.symm)
      have Zs89 : n0 ≤ h89.size := Nat.le_trans Z0 E89.1
      refine own_by (V := T89.setTop (mkF m 30 #[.val (.int p0), .val (.int p1), .val (.int p2), .val (.int p3), .val (.int (1 : Int32)), .val (.int (0 : Int32)), .val .null, .unset, .unset, .unset] [(.ref b89)])) st89 ?_
      refine own_by (V := T89.setTop (mkF m 32 #[.val (.int p0), .val (.int p1), .val (.int p2), .val (.int p3), .val (.int (1 : Int32)), .val (.int (0 : Int32)), .val (.ref b89), .unset, .unset, .unset] [])) (fun t k => XS.astore X89.here hx rfl (hb hby at_30) rfl rfl (l' := #[.val (.int p0), .val (.int p1), .val (.int p2), .val (.int p3), .val (.int (1 : Int32)), .val (.int (0 : Int32)), .val (.ref b89), .unset, .unset, .unset]) rfl k) ?_
      refine own_by (V := T89.setTop (mkF m 34 #[.val (.int p0), .val (.int p1), .val (.int p2), .val (.int p3), .val (.int (1 : Int32)), .val (.int (0 : Int32)), .val (.ref b89), .unset, .unset, .unset] [(.int (1 : Int32))])) (fun t k => XS.iload X89.here hx rfl (hb hby at_32) rfl  k) ?_
      have hb34_90 : ((0 : Int32) < (1 : Int32)) := by decide
      refine own_by (V := T89.setTop (mkF m 37 #[.val (.int p0), .val (.int p1), .val (.int p2), .val (.int p3), .val (.int (1 : Int32)), .val (.int (0 : Int32)), .val (.ref b89), .unset, .unset, .unset] [])) (fun t k => XS.ifNo X89.here hx rfl (hb hby at_34) rfl ((if0 _ _).trans (tlt hb34_90).2.2.2) k) ?_
      refine own_by (V := T89.setTop (mkF m 39 #[.val (.int p0), .val (.int p1), .val (.int p2), .val (.int p3), .val (.int (1 : Int32)), .val (.int (0 : Int32)), .val (.ref b89), .unset, .unset, .unset] [(.ref b89)])) (fun t k => XS.aload X89.here hx rfl (hb hby at_37) rfl rfl k) ?_
      refine own_by (V := T89.setTop (mkF m 40 #[.val (.int p0), .val (.int p1), .val (.int p2), .val (.int p3), .val (.int (1 : Int32)), .val (.int (0 : Int32)), .val (.ref b89), .unset, .unset, .unset] [(.int (0 : Int32)), (.ref b89)])) (fun t k => XS.iconst X89.here hx rfl (hb hby at_39) k) ?_
      refine own_by (V := T89.setTop (mkF m 41 #[.val (.int p0), .val (.int p1), .val (.int p2), .val (.int p3), .val (.int (1 : Int32)), .val (.int (0 : Int32)), .val (.ref b89), .unset, .unset, .unset] [(.int p0), (.int (0 : Int32)), (.ref b89)])) (fun t k => XS.iloadN X89.here hx rfl (hb hby at_40) rfl  k) ?_
      obtain ⟨cl91, Ar91, qa91, Sa91, Ma91, Ha91, Ua91⟩ := id V89
      obtain ⟨T92, h92, X92, e92, W92, st92⟩ := stI X89 hx hZ e89 Ar91 (j := (0 : Int32)) (inb_of Sa91 ⟨(by decide), (by decide)⟩) (g := (mkF m 41 #[.val (.int p0), .val (.int p1), .val (.int p2), .val (.int p3), .val (.int (1 : Int32)), .val (.int (0 : Int32)), .val (.ref b89), .unset, .unset, .unset] [(.int p0), (.int (0 : Int32)), (.ref b89)])) rfl rfl (hb hby at_41)
      have N92 := Fr.snoc X92 N0 gn89
      have Zs92 : n0 ≤ h92.size := by rw [W92.size]; exact Zs89
      have f93 := Ex89.wr W92
      have V92 : Arv Z h92 b89 k89 .int (1 : Int32) [(.int p0)] (.int (0 : Int32)) := Arv.set Ar91 qa91 Sa91 Ma91 Ha91 Ua91 rfl W92 0 (by decide) (by simp)
      refine own_by (V := T92.setTop (mkF m 42 #[.val (.int p0), .val (.int p1), .val (.int p2), .val (.int p3), .val (.int (1 : Int32)), .val (.int (0 : Int32)), .val (.ref b89), .unset, .unset, .unset] [])) st92 ?_
      refine own_by (V := T92.setTop (mkF m 44 #[.val (.int p0), .val (.int p1), .val (.int p2), .val (.int p3), .val (.int (1 : Int32)), .val (.int (0 : Int32)), .val (.ref b89), .unset, .unset, .unset] [(.int (1 : Int32))])) (fun t k => XS.iload X92.here hx rfl (hb hby at_42) rfl  k) ?_
      refine own_by (V := T92.setTop (mkF m 45 #[.val (.int p0), .val (.int p1), .val (.int p2), .val (.int p3), .val (.int (1 : Int32)), .val (.int (0 : Int32)), .val (.ref b89), .unset, .unset, .unset] [(.int (1 : Int32)), (.int (1 : Int32))])) (fun t k => XS.iconst X92.here hx rfl (hb hby at_44) k) ?_
      have hb45_94 : ¬ ((1 : Int32) < (1 : Int32)) := by decide
      refine own_by (V := T92.setTop (mkF m 53 #[.val (.int p0), .val (.int p1), .val (.int p2), .val (.int p3), .val (.int (1 : Int32)), .val (.int (0 : Int32)), .val (.ref b89), .unset, .unset, .unset] [])) (fun t k => XS.icmpYes X92.here hx rfl (pc0 := 45) (pc' := 53) rfl (hb hby at_45) rfl (flt hb45_94).2.2.2 (by decide) (by decide) k) ?_
      refine own_by (V := T92.setTop (mkF m 55 #[.val (.int p0), .val (.int p1), .val (.int p2), .val (.int p3), .val (.int (1 : Int32)), .val (.int (0 : Int32)), .val (.ref b89), .unset, .unset, .unset] [(.int (1 : Int32))])) (fun t k => XS.iload X92.here hx rfl (hb hby at_53) rfl  k) ?_
      refine own_by (V := T92.setTop (mkF m 56 #[.val (.int p0), .val (.int p1), .val (.int p2), .val (.int p3), .val (.int (1 : Int32)), .val (.int (0 : Int32)), .val (.ref b89), .unset, .unset, .unset] [(.int (2 : Int32)), (.int (1 : Int32))])) (fun t k => XS.iconst X92.here hx rfl (hb hby at_55) k) ?_
      have hb56_95 : ¬ ((2 : Int32) < (1 : Int32)) := by decide
      refine own_by (V := T92.setTop (mkF m 64 #[.val (.int p0), .val (.int p1), .val (.int p2), .val (.int p3), .val (.int (1 : Int32)), .val (.int (0 : Int32)), .val (.ref b89), .unset, .unset, .unset] [])) (fun t k => XS.icmpYes X92.here hx rfl (pc0 := 56) (pc' := 64) rfl (hb hby at_56) rfl (flt hb56_95).2.2.2 (by decide) (by decide) k) ?_
      obtain ⟨T96, h96, X96, e96, E96, A96, D96, -, st96⟩ := newO X92 hx hZ hown (hw _ (List.mem_of_getElem? (i := 1) rfl)) (hw _ (List.mem_of_getElem? (i := 2) rfl)) (hw _ (List.mem_of_getElem? (i := 3) rfl)) e92 (g := (mkF m 64 #[.val (.int p0), .val (.int p1), .val (.int p2), .val (.int p3), .val (.int (1 : Int32)), .val (.int (0 : Int32)), .val (.ref b89), .unset, .unset, .unset] [])) rfl (hb hby at_64) (by decide) (by decide)
      obtain ⟨b96, g96⟩ : ∃ z, z = h92.size := ⟨_, rfl⟩
      rw [← g96] at A96 D96 st96
      have ne97 : b89 ≠ b96 := Nat.ne_of_lt (Nat.lt_of_lt_of_le f93.lt (Nat.le_of_eq g96.symm))
      have f98 := f93.ext E96
      have f99 := V92.ext E96
      have f102 : Fld Z h96 b96 "com/example/nocord/nocord/model/Snapshot" "timestamp" "Lcom/example/nocord/nocord/model/Timestamp;" .null := D96 (Or.inr (hw _ (List.mem_of_getElem? (i := 22) rfl))) (ty := (.object "com/example/nocord/nocord/model/Timestamp")) (by decide)
      have f103 : Fld Z h96 b96 "com/example/nocord/nocord/model/Snapshot" "installing" "[I" .null := D96 (Or.inr (hw _ (List.mem_of_getElem? (i := 33) rfl))) (ty := (.array .int)) (by decide)
      have gn96 : n0 ≤ b96 := Nat.le_trans Zs92 (Nat.le_of_eq g96.symm)
      have Zs96 : n0 ≤ h96.size := Nat.le_trans Zs92 E96.1
      refine own_by (V := T96.setTop (mkF m 67 #[.val (.int p0), .val (.int p1), .val (.int p2), .val (.int p3), .val (.int (1 : Int32)), .val (.int (0 : Int32)), .val (.ref b89), .unset, .unset, .unset] [(.ref b96)])) st96 ?_
      refine own_by (V := T96.setTop (mkF m 68 #[.val (.int p0), .val (.int p1), .val (.int p2), .val (.int p3), .val (.int (1 : Int32)), .val (.int (0 : Int32)), .val (.ref b89), .unset, .unset, .unset] [(.ref b96), (.ref b96)])) (fun t k => XS.dup X96.here hx rfl (hb hby at_67) rfl rfl k) ?_
      obtain ⟨T104, h104, X104, e104, E104, A104, D104, -, st104⟩ := newO X96 hx hZ hown (hw _ (List.mem_of_getElem? (i := 4) rfl)) (hw _ (List.mem_of_getElem? (i := 5) rfl)) (hw _ (List.mem_of_getElem? (i := 6) rfl)) e96 (g := (mkF m 68 #[.val (.int p0), .val (.int p1), .val (.int p2), .val (.int p3), .val (.int (1 : Int32)), .val (.int (0 : Int32)), .val (.ref b89), .unset, .unset, .unset] [(.ref b96), (.ref b96)])) rfl (hb hby at_68) (by decide) (by decide)
      obtain ⟨b104, g104⟩ : ∃ z, z = h96.size := ⟨_, rfl⟩
      rw [← g104] at A104 D104 st104
      have ne105 : b89 ≠ b104 := Nat.ne_of_lt (Nat.lt_of_lt_of_le f98.lt (Nat.le_of_eq g104.symm))
      have ne106 : b96 ≠ b104 := Nat.ne_of_lt (Nat.lt_of_lt_of_le A96.lt (Nat.le_of_eq g104.symm))
      have f107 := f98.ext E104
      have f108 := f99.ext E104
      have f111 := A96.ext E104
      have f112 := f102.ext E104
      have f113 := f103.ext E104
      have f117 : Fld Z h104 b104 "com/example/nocord/nocord/model/Timestamp" "time" "J" (.long (0 : Int64)) := D104 (Or.inr (hw _ (List.mem_of_getElem? (i := 14) rfl))) (ty := .long) (by decide)
      have f118 : Fld Z h104 b104 "com/example/nocord/nocord/model/Timestamp" "client" "J" (.long (0 : Int64)) := D104 (Or.inr (hw _ (List.mem_of_getElem? (i := 16) rfl))) (ty := .long) (by decide)
      have gn104 : n0 ≤ b104 := Nat.le_trans Zs96 (Nat.le_of_eq g104.symm)
      have Zs104 : n0 ≤ h104.size := Nat.le_trans Zs96 E104.1
      refine own_by (V := T104.setTop (mkF m 71 #[.val (.int p0), .val (.int p1), .val (.int p2), .val (.int p3), .val (.int (1 : Int32)), .val (.int (0 : Int32)), .val (.ref b89), .unset, .unset, .unset] [(.ref b104), (.ref b96), (.ref b96)])) st104 ?_
      refine own_by (V := T104.setTop (mkF m 72 #[.val (.int p0), .val (.int p1), .val (.int p2), .val (.int p3), .val (.int (1 : Int32)), .val (.int (0 : Int32)), .val (.ref b89), .unset, .unset, .unset] [(.ref b104), (.ref b104), (.ref b96), (.ref b96)])) (fun t k => XS.dup X104.here hx rfl (hb hby at_71) rfl rfl k) ?_
      refine own_by (V := T104.setTop (mkF m 73 #[.val (.int p0), .val (.int p1), .val (.int p2), .val (.int p3), .val (.int (1 : Int32)), .val (.int (0 : Int32)), .val (.ref b89), .unset, .unset, .unset] [(.int p0), (.ref b104), (.ref b104), (.ref b96), (.ref b96)])) (fun t k => XS.iloadN X104.here hx rfl (hb hby at_72) rfl  k) ?_
      refine own_by (V := T104.setTop (mkF m 74 #[.val (.int p0), .val (.int p1), .val (.int p2), .val (.int p3), .val (.int (1 : Int32)), .val (.int (0 : Int32)), .val (.ref b89), .unset, .unset, .unset] [(.long (p0.toInt64)), (.ref b104), (.ref b104), (.ref b96), (.ref b96)])) (fun t k => XS.i2l X104.here hx rfl (hb hby at_73) rfl k) ?_
      refine own_by (V := T104.setTop (mkF m 75 #[.val (.int p0), .val (.int p1), .val (.int p2), .val (.int p3), .val (.int (1 : Int32)), .val (.int (0 : Int32)), .val (.ref b89), .unset, .unset, .unset] [(.int p1), (.long (p0.toInt64)), (.ref b104), (.ref b104), (.ref b96), (.ref b96)])) (fun t k => XS.iloadN X104.here hx rfl (hb hby at_74) rfl  k) ?_
      refine own_by (V := T104.setTop (mkF m 76 #[.val (.int p0), .val (.int p1), .val (.int p2), .val (.int p3), .val (.int (1 : Int32)), .val (.int (0 : Int32)), .val (.ref b89), .unset, .unset, .unset] [(.long (p1.toInt64)), (.long (p0.toInt64)), (.ref b104), (.ref b104), (.ref b96), (.ref b96)])) (fun t k => XS.i2l X104.here hx rfl (hb hby at_75) rfl k) ?_
      obtain ⟨_, _, ⟨T119, Lq119, kq119, nq119⟩, -, X119, ⟨Lc119, hQ119, lq119, yq119, zq119⟩, st119⟩ := X104.specialBack hx (y := (⟨"com/example/nocord/nocord/model/Timestamp", "<init>", "(JJ)V"⟩ : MethodName)) rfl hown (mvT hZ (hw _ (List.mem_of_getElem? (i := 7) rfl))) (mvT hZ (hw _ (List.mem_of_getElem? (i := 8) rfl))) (mvT hZ (hw _ (List.mem_of_getElem? (i := 9) rfl))) (by decide) (backOf (W := 3) (own_tinit l Z a0 hw [] b104 (p0.toInt64) (p1.toInt64) h104 n0 Zs104 gn104 A104 f117 f118) hZ (hw _ (List.mem_of_getElem? (i := 9) rfl)) (hw _ (List.mem_of_getElem? (i := 6) rfl)) (by decide) (by decide)) (g := (mkF m 76 #[.val (.int p0), .val (.int p1), .val (.int p2), .val (.int p3), .val (.int (1 : Int32)), .val (.int (0 : Int32)), .val (.ref b89), .unset, .unset, .unset] [(.long (p1.toInt64)), (.long (p0.toInt64)), (.ref b104), (.ref b104), (.ref b96), (.ref b96)])) rfl (by rw [hml]; rfl) (Steps.refl _) (a := b104) (argsL := [(.long (p0.toInt64)), (.long (p1.toInt64))]) (rest := [(.ref b104), (.ref b96), (.ref b96)]) (lenOf own_pd5 rfl) rfl (by show 2 * 0 + _ ≤ _; exact Nat.le_of_eq rfl) (hb hby at_76) (fun _ _ => ⟨rfl, e104, (by decide : 3 + 0 ≤ _), (by decide : 5 + 0 ≤ _)⟩)
      dsimp only [Pt.U, Pt.locs, Pt.cells, Pt.slots] at X119 lq119 yq119 zq119 st119 hQ119
      subst lq119 yq119 zq119
      obtain ⟨rfl, N119q, Kc119, Ec119, g119_0, g119_1⟩ := hQ119
      have N119 := Fr.app N92 N119q
      have f120 := f107.keep Kc119
      have f121 := f108.keep Kc119 (ninS ne105 nin0)
      have f122 := f111.keep Kc119
      have f123 := f112.keep Kc119 (ninS ne106 nin0)
      have f124 := f113.keep Kc119 (ninS ne106 nin0)
      have Zs119 : n0 ≤ T119.heap.size := Nat.le_trans Zs104 Kc119.1
      refine own_by (V := T119.setTop (mkF m 79 #[.val (.int p0), .val (.int p1), .val (.int p2), .val (.int p3), .val (.int (1 : Int32)), .val (.int (0 : Int32)), .val (.ref b89), .unset, .unset, .unset] [(.ref b104), (.ref b96), (.ref b96)])) (fun t k => st119.trans k) ?_
      refine own_by (V := T119.setTop (mkF m 81 #[.val (.int p0), .val (.int p1), .val (.int p2), .val (.int p3), .val (.int (1 : Int32)), .val (.int (0 : Int32)), .val (.ref b89), .unset, .unset, .unset] [(.ref b89), (.ref b104), (.ref b96), (.ref b96)])) (fun t k => XS.aload X119.here hx rfl (hb hby at_79) rfl rfl k) ?_
      obtain ⟨_, _, ⟨T125, Lq125, kq125, nq125⟩, -, X125, ⟨Lc125, hQ125, lq125, yq125, zq125⟩, st125⟩ := X119.specialBack hx (y := (⟨"com/example/nocord/nocord/model/Snapshot", "<init>", "(Lcom/example/nocord/nocord/model/Timestamp;[I)V"⟩ : MethodName)) rfl hown (mvT hZ (hw _ (List.mem_of_getElem? (i := 17) rfl))) (mvT hZ (hw _ (List.mem_of_getElem? (i := 18) rfl))) (mvT hZ (hw _ (List.mem_of_getElem? (i := 19) rfl))) (by decide) (backOf (W := 1) (own_snap_1 l Z a0 hw [] b96 b104 b89 k89 p0 T119.heap n0 Zs119 gn96 f122 f123 f124 f121 f120 ne97) hZ (hw _ (List.mem_of_getElem? (i := 19) rfl)) (hw _ (List.mem_of_getElem? (i := 3) rfl)) (by decide) (by decide)) (g := (mkF m 81 #[.val (.int p0), .val (.int p1), .val (.int p2), .val (.int p3), .val (.int (1 : Int32)), .val (.int (0 : Int32)), .val (.ref b89), .unset, .unset, .unset] [(.ref b89), (.ref b104), (.ref b96), (.ref b96)])) rfl (by rw [hml]; rfl) (Steps.refl _) (a := b96) (argsL := [(.ref b104), (.ref b89)]) (rest := [(.ref b96)]) (lenOf own_pd6 rfl) rfl (by show 2 * 0 + _ ≤ _; exact Nat.le_of_eq rfl) (hb hby at_81) (fun _ _ => ⟨rfl, rfl, (by decide : 3 + 1 ≤ _), (by decide : 5 + 1 ≤ _)⟩)
      dsimp only [Pt.U, Pt.locs, Pt.cells, Pt.slots] at X125 lq125 yq125 zq125 st125 hQ125
      subst lq125 yq125 zq125
      obtain ⟨b125, rfl, N125q, Kc125, hf125_b, g125_0, g125_1, g125_2, g125_3, g125_4⟩ := hQ125
      have N125 := Fr.app N119 N125q
      have ne126 : b89 ≠ b125 := Nat.ne_of_lt (Nat.lt_of_lt_of_le f120.lt hf125_b)
      have ne127 : b96 ≠ b125 := Nat.ne_of_lt (Nat.lt_of_lt_of_le f122.lt hf125_b)
      have ne128 : b104 ≠ b125 := Nat.ne_of_lt (Nat.lt_of_lt_of_le Ec119.lt hf125_b)
      have gn125_b : n0 ≤ b125 := Nat.le_trans Zs119 hf125_b
      have f129 := f120.keep Kc125
      have f130 := f121.keep Kc125 (ninS ne97 nin0)
      have f131 := f122.keep Kc125
      have f134 := Ec119.keep Kc125
      have f135 := g119_0.keep Kc125 (ninS (Ne.symm ne106) nin0)
      have f136 := g119_1.keep Kc125 (ninS (Ne.symm ne106) nin0)
      have Zs125 : n0 ≤ T125.heap.size := Nat.le_trans Zs119 Kc125.1
      refine own_by (V := T125.setTop (mkF m 84 #[.val (.int p0), .val (.int p1), .val (.int p2), .val (.int p3), .val (.int (1 : Int32)), .val (.int (0 : Int32)), .val (.ref b89), .unset, .unset, .unset] [(.ref b96)])) (fun t k => st125.trans k) ?_
      refine own_by (V := T125.setTop (mkF m 86 #[.val (.int p0), .val (.int p1), .val (.int p2), .val (.int p3), .val (.int (1 : Int32)), .val (.int (0 : Int32)), .val (.ref b89), .val (.ref b96), .unset, .unset] [])) (fun t k => XS.astore X125.here hx rfl (hb hby at_84) rfl rfl (l' := #[.val (.int p0), .val (.int p1), .val (.int p2), .val (.int p3), .val (.int (1 : Int32)), .val (.int (0 : Int32)), .val (.ref b89), .val (.ref b96), .unset, .unset]) rfl k) ?_
      refine own_by (V := T125.setTop (mkF m 88 #[.val (.int p0), .val (.int p1), .val (.int p2), .val (.int p3), .val (.int (1 : Int32)), .val (.int (0 : Int32)), .val (.ref b89), .val (.ref b96), .unset, .unset] [(.ref b96)])) (fun t k => XS.aload X125.here hx rfl (hb hby at_86) rfl rfl k) ?_
      obtain ⟨cq138, kq138, q138a, q138b, q138c⟩ := isOf hZ rfl g125_0
      obtain ⟨_, _, ⟨T137, Lq137, kq137, nq137⟩, -, X137, ⟨Lc137, hQ137, lq137, yq137, zq137⟩, st137⟩ := X125.virtualBack hx (y := (⟨"com/example/nocord/nocord/model/Snapshot", "installingHashes", "()[I"⟩ : MethodName)) (z := (⟨"com/example/nocord/nocord/model/Snapshot", "installingHashes", "()[I"⟩ : MethodName)) hown (mvT hZ (hw _ (List.mem_of_getElem? (i := 48) rfl))) (mvT hZ (hw _ (List.mem_of_getElem? (i := 49) rfl))) (notFace_of_selects (args := #[]) (mvT hZ (hw _ (List.mem_of_getElem? (i := 51) rfl)))) (mvT hZ (hw _ (List.mem_of_getElem? (i := 51) rfl))) (mvT hZ (hw _ (List.mem_of_getElem? (i := 50) rfl))) (by decide) (backOf (W := 0) (own_hash_1 l Z a0 hw [] b96 b125 k89 p0 T125.heap n0 Zs125 g125_2 g125_3 g125_4) hZ (hw _ (List.mem_of_getElem? (i := 52) rfl)) (hw _ (List.mem_of_getElem? (i := 3) rfl)) (by decide) (by decide)) q138a q138c (g := (mkF m 88 #[.val (.int p0), .val (.int p1), .val (.int p2), .val (.int p3), .val (.int (1 : Int32)), .val (.int (0 : Int32)), .val (.ref b89), .val (.ref b96), .unset, .unset] [(.ref b96)])) rfl (by rw [hml]; rfl) (Steps.refl _) (argsL := []) (rest := []) (lenOf own_pd7 rfl) rfl (by show 2 * 0 + _ ≤ _; exact Nat.le_of_eq rfl) (hb hby at_88) (fun _ _ => ⟨rfl, rfl, (by decide : 4 + 1 ≤ _), (by decide : 6 + 1 ≤ _)⟩)
      dsimp only [Pt.U, Pt.locs, Pt.cells, Pt.slots] at X137 lq137 yq137 zq137 st137 hQ137
      subst lq137 yq137 zq137
      obtain ⟨r137, rfl, N137q, Kc137, hf137_r, g137_0, g137_1⟩ := hQ137
      have N137 := Fr.app N125 N137q
      have ne139 : b89 ≠ r137 := Nat.ne_of_lt (Nat.lt_of_lt_of_le f129.lt hf137_r)
      have ne140 : b96 ≠ r137 := Nat.ne_of_lt (Nat.lt_of_lt_of_le g125_0.lt hf137_r)
      have ne141 : b104 ≠ r137 := Nat.ne_of_lt (Nat.lt_of_lt_of_le f134.lt hf137_r)
      have ne142 : b125 ≠ r137 := Nat.ne_of_lt (Nat.lt_of_lt_of_le g125_3.lt hf137_r)
      have gn137_r : n0 ≤ r137 := Nat.le_trans Zs125 hf137_r
      have f143 := f129.keep Kc137
      have f144 := f130.keep Kc137 nin0
      have f145 := g125_0.keep Kc137
      have f146 := f134.keep Kc137
      have f147 := f135.keep Kc137 nin0
      have f148 := f136.keep Kc137 nin0
      have f149 := g125_1.keep Kc137 nin0
      have f150 := g125_2.keep Kc137 nin0
      have f151 := g125_3.keep Kc137 nin0
      have f152 := g125_4.keep Kc137
      have Zs137 : n0 ≤ T137.heap.size := Nat.le_trans Zs125 Kc137.1
      refine own_by (V := T137.setTop (mkF m 91 #[.val (.int p0), .val (.int p1), .val (.int p2), .val (.int p3), .val (.int (1 : Int32)), .val (.int (0 : Int32)), .val (.ref b89), .val (.ref b96), .unset, .unset] [(.ref r137)])) (fun t k => st137.trans k) ?_
      refine own_by (V := T137.setTop (mkF m 93 #[.val (.int p0), .val (.int p1), .val (.int p2), .val (.int p3), .val (.int (1 : Int32)), .val (.int (0 : Int32)), .val (.ref b89), .val (.ref b96), .val (.ref r137), .unset] [])) (fun t k => XS.astore X137.here hx rfl (hb hby at_91) rfl rfl (l' := #[.val (.int p0), .val (.int p1), .val (.int p2), .val (.int p3), .val (.int (1 : Int32)), .val (.int (0 : Int32)), .val (.ref b89), .val (.ref b96), .val (.ref r137), .unset]) rfl k) ?_
      refine own_by (V := T137.setTop (mkF m 95 #[.val (.int p0), .val (.int p1), .val (.int p2), .val (.int p3), .val (.int (1 : Int32)), .val (.int (0 : Int32)), .val (.ref b89), .val (.ref b96), .val (.ref r137), .unset] [(.int (0 : Int32))])) (fun t k => XS.iload X137.here hx rfl (hb hby at_93) rfl  k) ?_
      have hb95_153 : ((0 : Int32) = (0 : Int32)) := rfl
      refine own_by (V := T137.setTop (mkF m 117 #[.val (.int p0), .val (.int p1), .val (.int p2), .val (.int p3), .val (.int (1 : Int32)), .val (.int (0 : Int32)), .val (.ref b89), .val (.ref b96), .val (.ref r137), .unset] [])) (fun t k => XS.ifYes X137.here hx rfl (pc0 := 95) (pc' := 117) rfl (hb hby at_95) rfl ((if0 _ _).trans (teq hb95_153).1) (by decide) (by decide) k) ?_
      refine own_by (V := T137.setTop (mkF m 119 #[.val (.int p0), .val (.int p1), .val (.int p2), .val (.int p3), .val (.int (1 : Int32)), .val (.int (0 : Int32)), .val (.ref b89), .val (.ref b96), .val (.ref r137), .unset] [(.ref r137)])) (fun t k => XS.aload X137.here hx rfl (hb hby at_117) rfl rfl k) ?_
      refine own_by (V := T137.setTop (mkF m 121 #[.val (.int p0), .val (.int p1), .val (.int p2), .val (.int p3), .val (.int (1 : Int32)), .val (.int (0 : Int32)), .val (.ref b89), .val (.ref b96), .val (.ref r137), .unset] [(.int (1 : Int32)), (.ref r137)])) (fun t k => XS.iload X137.here hx rfl (hb hby at_119) rfl  k) ?_
      refine own_by (V := T137.setTop (mkF m 122 #[.val (.int p0), .val (.int p1), .val (.int p2), .val (.int p3), .val (.int (1 : Int32)), .val (.int (0 : Int32)), .val (.ref b89), .val (.ref b96), .val (.ref r137), .unset] [(.int p0), (.int (1 : Int32)), (.ref r137)])) (fun t k => XS.iloadN X137.here hx rfl (hb hby at_121) rfl  k) ?_
      refine own_by (V := T137.setTop (mkF m 123 #[.val (.int p0), .val (.int p1), .val (.int p2), .val (.int p3), .val (.int (1 : Int32)), .val (.int (0 : Int32)), .val (.ref b89), .val (.ref b96), .val (.ref r137), .unset] [(.int p1), (.int p0), (.int (1 : Int32)), (.ref r137)])) (fun t k => XS.iloadN X137.here hx rfl (hb hby at_122) rfl  k) ?_
      refine own_by (V := T137.setTop (mkF m 124 #[.val (.int p0), .val (.int p1), .val (.int p2), .val (.int p3), .val (.int (1 : Int32)), .val (.int (0 : Int32)), .val (.ref b89), .val (.ref b96), .val (.ref r137), .unset] [(.int p2), (.int p1), (.int p0), (.int (1 : Int32)), (.ref r137)])) (fun t k => XS.iloadN X137.here hx rfl (hb hby at_123) rfl  k) ?_
      obtain ⟨_, _, ⟨T154, Lq154, kq154, nq154⟩, -, X154, ⟨Lc154, hQ154, lq154, yq154, zq154⟩, st154⟩ := Jvm.LawKit.callS X137 hx (y := (⟨"com/example/nocord/nocord/model/SnapshotInstallingHashesPinLaw", "matches", "([IIIII)Z"⟩ : MethodName)) hown (mvT hZ (hw _ (List.mem_of_getElem? (i := 53) rfl))) (mvT hZ (hw _ (List.mem_of_getElem? (i := 54) rfl))) (mvT hZ (hw _ (List.mem_of_getElem? (i := 55) rfl))) (mvT hZ (hw _ (List.mem_of_getElem? (i := 56) rfl))) (by decide) (backOf (W := 0) (own_match_1 l Z a0 hw [] r137 p0 p1 p2 k89 T137.heap n0 g137_0) hZ (hw _ (List.mem_of_getElem? (i := 56) rfl)) (hw _ (List.mem_of_getElem? (i := 55) rfl)) (by decide) (by decide)) (g := (mkF m 124 #[.val (.int p0), .val (.int p1), .val (.int p2), .val (.int p3), .val (.int (1 : Int32)), .val (.int (0 : Int32)), .val (.ref b89), .val (.ref b96), .val (.ref r137), .unset] [(.int p2), (.int p1), (.int p0), (.int (1 : Int32)), (.ref r137)])) rfl (by rw [hml]; rfl) (argsL := [(.ref r137), (.int (1 : Int32)), (.int p0), (.int p1), (.int p2)]) (rest := []) (lenOf own_pd8 rfl) rfl (by show 2 * 0 + _ ≤ _; exact Nat.le_of_eq rfl) (hb hby at_124) (fun _ _ => ⟨rfl, rfl, (by decide : 5 + 0 ≤ _), (by decide : 7 + 0 ≤ _)⟩)
      dsimp only [Pt.U, Pt.locs, Pt.cells, Pt.slots] at X154 lq154 yq154 zq154 st154 hQ154
      subst lq154 yq154 zq154
      obtain ⟨rfl, N154q, e154⟩ := hQ154
      have N154 := Fr.app N137 N154q
      refine own_by (V := T154.setTop (mkF m 127 #[.val (.int p0), .val (.int p1), .val (.int p2), .val (.int p3), .val (.int (1 : Int32)), .val (.int (0 : Int32)), .val (.ref b89), .val (.ref b96), .val (.ref r137), .unset] [(.int (1 : Int32))])) st154 ?_
      have hb127_155 : ¬ ((1 : Int32) = (0 : Int32)) := by decide
      refine own_by (V := T154.setTop (mkF m 132 #[.val (.int p0), .val (.int p1), .val (.int p2), .val (.int p3), .val (.int (1 : Int32)), .val (.int (0 : Int32)), .val (.ref b89), .val (.ref b96), .val (.ref r137), .unset] [])) (fun t k => XS.ifYes X154.here hx rfl (pc0 := 127) (pc' := 132) rfl (hb hby at_127) rfl ((if0 _ _).trans (feq hb127_155).2) (by decide) (by decide) k) ?_
      refine own_by (V := T154.setTop (mkF m 134 #[.val (.int p0), .val (.int p1), .val (.int p2), .val (.int p3), .val (.int (1 : Int32)), .val (.int (0 : Int32)), .val (.ref b89), .val (.ref b96), .val (.ref r137), .unset] [(.int (1 : Int32))])) (fun t k => XS.iload X154.here hx rfl (hb hby at_132) rfl  k) ?_
      have hb134_156 : ((0 : Int32) < (1 : Int32)) := by decide
      refine own_by (V := T154.setTop (mkF m 137 #[.val (.int p0), .val (.int p1), .val (.int p2), .val (.int p3), .val (.int (1 : Int32)), .val (.int (0 : Int32)), .val (.ref b89), .val (.ref b96), .val (.ref r137), .unset] [])) (fun t k => XS.ifNo X154.here hx rfl (hb hby at_134) rfl ((if0 _ _).trans (tlt hb134_156).2.2.2) k) ?_
      refine own_by (V := T154.setTop (mkF m 139 #[.val (.int p0), .val (.int p1), .val (.int p2), .val (.int p3), .val (.int (1 : Int32)), .val (.int (0 : Int32)), .val (.ref b89), .val (.ref b96), .val (.ref r137), .unset] [(.ref r137)])) (fun t k => XS.aload X154.here hx rfl (hb hby at_137) rfl rfl k) ?_
      refine own_by (V := T154.setTop (mkF m 140 #[.val (.int p0), .val (.int p1), .val (.int p2), .val (.int p3), .val (.int (1 : Int32)), .val (.int (0 : Int32)), .val (.ref b89), .val (.ref b96), .val (.ref r137), .unset] [(.int (0 : Int32)), (.ref r137)])) (fun t k => XS.iconst X154.here hx rfl (hb hby at_139) k) ?_
      refine own_by (V := T154.setTop (mkF m 142 #[.val (.int p0), .val (.int p1), .val (.int p2), .val (.int p3), .val (.int (1 : Int32)), .val (.int (0 : Int32)), .val (.ref b89), .val (.ref b96), .val (.ref r137), .unset] [(.ref r137), (.int (0 : Int32)), (.ref r137)])) (fun t k => XS.aload X154.here hx rfl (hb hby at_140) rfl rfl k) ?_
      refine own_by (V := T154.setTop (mkF m 143 #[.val (.int p0), .val (.int p1), .val (.int p2), .val (.int p3), .val (.int (1 : Int32)), .val (.int (0 : Int32)), .val (.ref b89), .val (.ref b96), .val (.ref r137), .unset] [(.int (0 : Int32)), (.ref r137), (.int (0 : Int32)), (.ref r137)])) (fun t k => XS.iconst X154.here hx rfl (hb hby at_142) k) ?_
      obtain ⟨cl157, Ar157, qa157, Sa157, Ma157, Ha157, Ua157⟩ := id g137_0
      have hi157 := inb_of Sa157 (j := (0 : Int32)) ⟨(by decide), (by decide)⟩
      refine own_by (V := T154.setTop (mkF m 144 #[.val (.int p0), .val (.int p1), .val (.int p2), .val (.int p3), .val (.int (1 : Int32)), .val (.int (0 : Int32)), .val (.ref b89), .val (.ref b96), .val (.ref r137), .unset] [(.int p0), (.int (0 : Int32)), (.ref r137)])) (X154.iaload hx (j := (0 : Int32)) (v := (.int p0)) (by rw [e154]; exact Ar157.1) (State.isArrayOf_alike hZ.alike Ar157.2.1) Ar157.2.2 hi157 (Has.at Ha157 hi157 rfl) (g := (mkF m 143 #[.val (.int p0), .val (.int p1), .val (.int p2), .val (.int p3), .val (.int (1 : Int32)), .val (.int (0 : Int32)), .val (.ref b89), .val (.ref b96), .val (.ref r137), .unset] [(.int (0 : Int32)), (.ref r137), (.int (0 : Int32)), (.ref r137)])) rfl rfl (hb hby at_143)) ?_
      refine own_by (V := T154.setTop (mkF m 145 #[.val (.int p0), .val (.int p1), .val (.int p2), .val (.int p3), .val (.int (1 : Int32)), .val (.int (0 : Int32)), .val (.ref b89), .val (.ref b96), .val (.ref r137), .unset] [(.int (1 : Int32)), (.int p0), (.int (0 : Int32)), (.ref r137)])) (fun t k => XS.iconst X154.here hx rfl (hb hby at_144) k) ?_
      refine own_by (V := T154.setTop (mkF m 146 #[.val (.int p0), .val (.int p1), .val (.int p2), .val (.int p3), .val (.int (1 : Int32)), .val (.int (0 : Int32)), .val (.ref b89), .val (.ref b96), .val (.ref r137), .unset] [(.int (p0 ^^^ (1 : Int32))), (.int (0 : Int32)), (.ref r137)])) (fun t k => XS.ixor X154.here hx rfl (hb hby at_145) rfl k) ?_
      obtain ⟨cl158, Ar158, qa158, Sa158, Ma158, Ha158, Ua158⟩ := id g137_0
      obtain ⟨T159, h159, X159, e159, W159, st159⟩ := stI X154 hx hZ e154 Ar158 (j := (0 : Int32)) (inb_of Sa158 ⟨(by decide), (by decide)⟩) (g := (mkF m 146 #[.val (.int p0), .val (.int p1), .val (.int p2), .val (.int p3), .val (.int (1 : Int32)), .val (.int (0 : Int32)), .val (.ref b89), .val (.ref b96), .val (.ref r137), .unset] [(.int (p0 ^^^ (1 : Int32))), (.int (0 : Int32)), (.ref r137)])) rfl rfl (hb hby at_146)
      have N159 := Fr.snoc X159 N154 gn137_r
      have Zs159 : n0 ≤ h159.size := by rw [W159.size]; exact Zs137
      have f160 := f143.wr W159
      have f161 := f144.other W159 ne139
      have f162 := f145.wr W159
      have f163 := f146.wr W159
      have f164 := f147.other W159 (Or.inl ne141)
      have f165 := f148.other W159 (Or.inl ne141)
      have f166 := f149.other W159 (Or.inl ne140)
      have f167 := f150.other W159 (Or.inl ne140)
      have f168 := f151.other W159 ne142
      have f169 := f152.wr W159
      have f170 := g137_1.wr W159
      have V159 : Arv Z h159 r137 k89 .int (1 : Int32) [(.int (p0 ^^^ (1 : Int32)))] (.int (0 : Int32)) := Arv.set Ar158 qa158 Sa158 Ma158 Ha158 Ua158 rfl W159 0 (by decide) (by simp)
      refine own_by (V := T159.setTop (mkF m 147 #[.val (.int p0), .val (.int p1), .val (.int p2), .val (.int p3), .val (.int (1 : Int32)), .val (.int (0 : Int32)), .val (.ref b89), .val (.ref b96), .val (.ref r137), .unset] [])) st159 ?_
      refine own_by (V := T159.setTop (mkF m 149 #[.val (.int p0), .val (.int p1), .val (.int p2), .val (.int p3), .val (.int (1 : Int32)), .val (.int (0 : Int32)), .val (.ref b89), .val (.ref b96), .val (.ref r137), .unset] [(.ref b89)])) (fun t k => XS.aload X159.here hx rfl (hb hby at_147) rfl rfl k) ?_
      refine own_by (V := T159.setTop (mkF m 150 #[.val (.int p0), .val (.int p1), .val (.int p2), .val (.int p3), .val (.int (1 : Int32)), .val (.int (0 : Int32)), .val (.ref b89), .val (.ref b96), .val (.ref r137), .unset] [(.int (0 : Int32)), (.ref b89)])) (fun t k => XS.iconst X159.here hx rfl (hb hby at_149) k) ?_
      refine own_by (V := T159.setTop (mkF m 152 #[.val (.int p0), .val (.int p1), .val (.int p2), .val (.int p3), .val (.int (1 : Int32)), .val (.int (0 : Int32)), .val (.ref b89), .val (.ref b96), .val (.ref r137), .unset] [(.ref b89), (.int (0 : Int32)), (.ref b89)])) (fun t k => XS.aload X159.here hx rfl (hb hby at_150) rfl rfl k) ?_
      refine own_by (V := T159.setTop (mkF m 153 #[.val (.int p0), .val (.int p1), .val (.int p2), .val (.int p3), .val (.int (1 : Int32)), .val (.int (0 : Int32)), .val (.ref b89), .val (.ref b96), .val (.ref r137), .unset] [(.int (0 : Int32)), (.ref b89), (.int (0 : Int32)), (.ref b89)])) (fun t k => XS.iconst X159.here hx rfl (hb hby at_152) k) ?_
      obtain ⟨cl171, Ar171, qa171, Sa171, Ma171, Ha171, Ua171⟩ := id f161
      have hi171 := inb_of Sa171 (j := (0 : Int32)) ⟨(by decide), (by decide)⟩
      refine own_by (V := T159.setTop (mkF m 154 #[.val (.int p0), .val (.int p1), .val (.int p2), .val (.int p3), .val (.int (1 : Int32)), .val (.int (0 : Int32)), .val (.ref b89), .val (.ref b96), .val (.ref r137), .unset] [(.int p0), (.int (0 : Int32)), (.ref b89)])) (X159.iaload hx (j := (0 : Int32)) (v := (.int p0)) (by rw [e159]; exact Ar171.1) (State.isArrayOf_alike hZ.alike Ar171.2.1) Ar171.2.2 hi171 (Has.at Ha171 hi171 rfl) (g := (mkF m 153 #[.val (.int p0), .val (.int p1), .val (.int p2), .val (.int p3), .val (.int (1 : Int32)), .val (.int (0 : Int32)), .val (.ref b89), .val (.ref b96), .val (.ref r137), .unset] [(.int (0 : Int32)), (.ref b89), (.int (0 : Int32)), (.ref b89)])) rfl rfl (hb hby at_153)) ?_
      refine own_by (V := T159.setTop (mkF m 155 #[.val (.int p0), .val (.int p1), .val (.int p2), .val (.int p3), .val (.int (1 : Int32)), .val (.int (0 : Int32)), .val (.ref b89), .val (.ref b96), .val (.ref r137), .unset] [(.int (1 : Int32)), (.int p0), (.int (0 : Int32)), (.ref b89)])) (fun t k => XS.iconst X159.here hx rfl (hb hby at_154) k) ?_
      refine own_by (V := T159.setTop (mkF m 156 #[.val (.int p0), .val (.int p1), .val (.int p2), .val (.int p3), .val (.int (1 : Int32)), .val (.int (0 : Int32)), .val (.ref b89), .val (.ref b96), .val (.ref r137), .unset] [(.int (p0 ^^^ (1 : Int32))), (.int (0 : Int32)), (.ref b89)])) (fun t k => XS.ixor X159.here hx rfl (hb hby at_155) rfl k) ?_
      obtain ⟨cl172, Ar172, qa172, Sa172, Ma172, Ha172, Ua172⟩ := id f161
      obtain ⟨T173, h173, X173, e173, W173, st173⟩ := stI X159 hx hZ e159 Ar172 (j := (0 : Int32)) (inb_of Sa172 ⟨(by decide), (by decide)⟩) (g := (mkF m 156 #[.val (.int p0), .val (.int p1), .val (.int p2), .val (.int p3), .val (.int (1 : Int32)), .val (.int (0 : Int32)), .val (.ref b89), .val (.ref b96), .val (.ref r137), .unset] [(.int (p0 ^^^ (1 : Int32))), (.int (0 : Int32)), (.ref b89)])) rfl rfl (hb hby at_156)
      have N173 := Fr.snoc X173 N159 gn89
      have Zs173 : n0 ≤ h173.size := by rw [W173.size]; exact Zs159
      have f174 := f160.wr W173
      have f175 := f162.wr W173
      have f176 := f163.wr W173
      have f177 := f164.other W173 (Or.inl (Ne.symm ne105))
      have f178 := f165.other W173 (Or.inl (Ne.symm ne105))
      have f179 := f166.other W173 (Or.inl (Ne.symm ne97))
      have f180 := f167.other W173 (Or.inl (Ne.symm ne97))
      have f181 := f168.other W173 (Ne.symm ne126)
      have f182 := f169.wr W173
      have f183 := V159.other W173 (Ne.symm ne139)
      have f184 := f170.wr W173
      have V173 : Arv Z h173 b89 k89 .int (1 : Int32) [(.int (p0 ^^^ (1 : Int32)))] (.int (0 : Int32)) := Arv.set Ar172 qa172 Sa172 Ma172 Ha172 Ua172 rfl W173 0 (by decide) (by simp)
      refine own_by (V := T173.setTop (mkF m 157 #[.val (.int p0), .val (.int p1), .val (.int p2), .val (.int p3), .val (.int (1 : Int32)), .val (.int (0 : Int32)), .val (.ref b89), .val (.ref b96), .val (.ref r137), .unset] [])) st173 ?_
      refine own_by (V := T173.setTop (mkF m 159 #[.val (.int p0), .val (.int p1), .val (.int p2), .val (.int p3), .val (.int (1 : Int32)), .val (.int (0 : Int32)), .val (.ref b89), .val (.ref b96), .val (.ref r137), .unset] [(.ref b96)])) (fun t k => XS.aload X173.here hx rfl (hb hby at_157) rfl rfl k) ?_
      obtain ⟨cq186, kq186, q186a, q186b, q186c⟩ := isOf hZ e173 f175
      obtain ⟨_, _, ⟨T185, Lq185, kq185, nq185⟩, -, X185, ⟨Lc185, hQ185, lq185, yq185, zq185⟩, st185⟩ := X173.virtualBack hx (y := (⟨"com/example/nocord/nocord/model/Snapshot", "installingHashes", "()[I"⟩ : MethodName)) (z := (⟨"com/example/nocord/nocord/model/Snapshot", "installingHashes", "()[I"⟩ : MethodName)) hown (mvT hZ (hw _ (List.mem_of_getElem? (i := 48) rfl))) (mvT hZ (hw _ (List.mem_of_getElem? (i := 49) rfl))) (notFace_of_selects (args := #[]) (mvT hZ (hw _ (List.mem_of_getElem? (i := 51) rfl)))) (mvT hZ (hw _ (List.mem_of_getElem? (i := 51) rfl))) (mvT hZ (hw _ (List.mem_of_getElem? (i := 50) rfl))) (by decide) (backOf (W := 0) (own_hash_1 l Z a0 hw [] b96 b125 k89 p0 h173 n0 Zs173 f180 f181 f182) hZ (hw _ (List.mem_of_getElem? (i := 52) rfl)) (hw _ (List.mem_of_getElem? (i := 3) rfl)) (by decide) (by decide)) q186a q186c (g := (mkF m 159 #[.val (.int p0), .val (.int p1), .val (.int p2), .val (.int p3), .val (.int (1 : Int32)), .val (.int (0 : Int32)), .val (.ref b89), .val (.ref b96), .val (.ref r137), .unset] [(.ref b96)])) rfl (by rw [hml]; rfl) (Steps.refl _) (argsL := []) (rest := []) (lenOf own_pd7 rfl) rfl (by show 2 * 0 + _ ≤ _; exact Nat.le_of_eq rfl) (hb hby at_159) (fun _ _ => ⟨rfl, e173, (by decide : 5 + 1 ≤ _), (by decide : 7 + 1 ≤ _)⟩)
      dsimp only [Pt.U, Pt.locs, Pt.cells, Pt.slots] at X185 lq185 yq185 zq185 st185 hQ185
      subst lq185 yq185 zq185
      obtain ⟨r185, rfl, N185q, Kc185, hf185_r, g185_0, g185_1⟩ := hQ185
      have N185 := Fr.app N173 N185q
      have ne187 : b89 ≠ r185 := Nat.ne_of_lt (Nat.lt_of_lt_of_le f174.lt hf185_r)
      have ne188 : b96 ≠ r185 := Nat.ne_of_lt (Nat.lt_of_lt_of_le f175.lt hf185_r)
      have ne189 : b104 ≠ r185 := Nat.ne_of_lt (Nat.lt_of_lt_of_le f176.lt hf185_r)
      have ne190 : b125 ≠ r185 := Nat.ne_of_lt (Nat.lt_of_lt_of_le f181.lt hf185_r)
      have ne191 : r137 ≠ r185 := Nat.ne_of_lt (Nat.lt_of_lt_of_le f183.lt hf185_r)
      have gn185_r : n0 ≤ r185 := Nat.le_trans Zs173 hf185_r
      have f192 := f174.keep Kc185
      have f193 := V173.keep Kc185 nin0
      have f194 := f175.keep Kc185
      have f195 := f176.keep Kc185
      have f196 := f177.keep Kc185 nin0
      have f197 := f178.keep Kc185 nin0
      have f198 := f179.keep Kc185 nin0
      have f199 := f180.keep Kc185 nin0
      have f200 := f181.keep Kc185 nin0
      have f201 := f182.keep Kc185
      have f202 := f183.keep Kc185 nin0
      have f203 := f184.keep Kc185
      have Zs185 : n0 ≤ T185.heap.size := Nat.le_trans Zs173 Kc185.1
      refine own_by (V := T185.setTop (mkF m 162 #[.val (.int p0), .val (.int p1), .val (.int p2), .val (.int p3), .val (.int (1 : Int32)), .val (.int (0 : Int32)), .val (.ref b89), .val (.ref b96), .val (.ref r137), .unset] [(.ref r185)])) (fun t k => st185.trans k) ?_
      refine own_by (V := T185.setTop (mkF m 164 #[.val (.int p0), .val (.int p1), .val (.int p2), .val (.int p3), .val (.int (1 : Int32)), .val (.int (0 : Int32)), .val (.ref b89), .val (.ref b96), .val (.ref r137), .val (.ref r185)] [])) (fun t k => XS.astore X185.here hx rfl (hb hby at_162) rfl rfl (l' := #[.val (.int p0), .val (.int p1), .val (.int p2), .val (.int p3), .val (.int (1 : Int32)), .val (.int (0 : Int32)), .val (.ref b89), .val (.ref b96), .val (.ref r137), .val (.ref r185)]) rfl k) ?_
      refine own_by (V := T185.setTop (mkF m 166 #[.val (.int p0), .val (.int p1), .val (.int p2), .val (.int p3), .val (.int (1 : Int32)), .val (.int (0 : Int32)), .val (.ref b89), .val (.ref b96), .val (.ref r137), .val (.ref r185)] [(.ref r185)])) (fun t k => XS.aload X185.here hx rfl (hb hby at_164) rfl rfl k) ?_
      refine own_by (V := T185.setTop (mkF m 168 #[.val (.int p0), .val (.int p1), .val (.int p2), .val (.int p3), .val (.int (1 : Int32)), .val (.int (0 : Int32)), .val (.ref b89), .val (.ref b96), .val (.ref r137), .val (.ref r185)] [(.int (1 : Int32)), (.ref r185)])) (fun t k => XS.iload X185.here hx rfl (hb hby at_166) rfl  k) ?_
      refine own_by (V := T185.setTop (mkF m 169 #[.val (.int p0), .val (.int p1), .val (.int p2), .val (.int p3), .val (.int (1 : Int32)), .val (.int (0 : Int32)), .val (.ref b89), .val (.ref b96), .val (.ref r137), .val (.ref r185)] [(.int p0), (.int (1 : Int32)), (.ref r185)])) (fun t k => XS.iloadN X185.here hx rfl (hb hby at_168) rfl  k) ?_
      refine own_by (V := T185.setTop (mkF m 170 #[.val (.int p0), .val (.int p1), .val (.int p2), .val (.int p3), .val (.int (1 : Int32)), .val (.int (0 : Int32)), .val (.ref b89), .val (.ref b96), .val (.ref r137), .val (.ref r185)] [(.int p1), (.int p0), (.int (1 : Int32)), (.ref r185)])) (fun t k => XS.iloadN X185.here hx rfl (hb hby at_169) rfl  k) ?_
      refine own_by (V := T185.setTop (mkF m 171 #[.val (.int p0), .val (.int p1), .val (.int p2), .val (.int p3), .val (.int (1 : Int32)), .val (.int (0 : Int32)), .val (.ref b89), .val (.ref b96), .val (.ref r137), .val (.ref r185)] [(.int p2), (.int p1), (.int p0), (.int (1 : Int32)), (.ref r185)])) (fun t k => XS.iloadN X185.here hx rfl (hb hby at_170) rfl  k) ?_
      obtain ⟨_, _, ⟨T204, Lq204, kq204, nq204⟩, -, X204, ⟨Lc204, hQ204, lq204, yq204, zq204⟩, st204⟩ := Jvm.LawKit.callS X185 hx (y := (⟨"com/example/nocord/nocord/model/SnapshotInstallingHashesPinLaw", "matches", "([IIIII)Z"⟩ : MethodName)) hown (mvT hZ (hw _ (List.mem_of_getElem? (i := 53) rfl))) (mvT hZ (hw _ (List.mem_of_getElem? (i := 54) rfl))) (mvT hZ (hw _ (List.mem_of_getElem? (i := 55) rfl))) (mvT hZ (hw _ (List.mem_of_getElem? (i := 56) rfl))) (by decide) (backOf (W := 0) (own_match_1 l Z a0 hw [] r185 p0 p1 p2 k89 T185.heap n0 g185_0) hZ (hw _ (List.mem_of_getElem? (i := 56) rfl)) (hw _ (List.mem_of_getElem? (i := 55) rfl)) (by decide) (by decide)) (g := (mkF m 171 #[.val (.int p0), .val (.int p1), .val (.int p2), .val (.int p3), .val (.int (1 : Int32)), .val (.int (0 : Int32)), .val (.ref b89), .val (.ref b96), .val (.ref r137), .val (.ref r185)] [(.int p2), (.int p1), (.int p0), (.int (1 : Int32)), (.ref r185)])) rfl (by rw [hml]; rfl) (argsL := [(.ref r185), (.int (1 : Int32)), (.int p0), (.int p1), (.int p2)]) (rest := []) (lenOf own_pd8 rfl) rfl (by show 2 * 0 + _ ≤ _; exact Nat.le_of_eq rfl) (hb hby at_171) (fun _ _ => ⟨rfl, rfl, (by decide : 6 + 0 ≤ _), (by decide : 8 + 0 ≤ _)⟩)
      dsimp only [Pt.U, Pt.locs, Pt.cells, Pt.slots] at X204 lq204 yq204 zq204 st204 hQ204
      subst lq204 yq204 zq204
      obtain ⟨rfl, N204q, e204⟩ := hQ204
      have N204 := Fr.app N185 N204q
      refine own_by (V := T204.setTop (mkF m 174 #[.val (.int p0), .val (.int p1), .val (.int p2), .val (.int p3), .val (.int (1 : Int32)), .val (.int (0 : Int32)), .val (.ref b89), .val (.ref b96), .val (.ref r137), .val (.ref r185)] [(.int (1 : Int32))])) st204 ?_
      refine own_retN X204 hx hlk e204 Bd.returns (t := .boolean) (by simp) rfl (hb hby at_174) ?_ (by decide) (by decide)
      exact ⟨rfl, N204⟩
    · obtain rfl : z1 = (2 : Int32) := hz1.trans q
      refine own_by (V := s₁.setTop (mkF m 28 #[.val (.int p0), .val (.int p1), .val (.int p2), .val (.int p3), .val (.int (2 : Int32)), .val (.int (0 : Int32)), .val .null, .unset, .unset, .unset] [(.int (2 : Int32))])) (fun t k => XS.iload X0.here hx rfl (hb hby at_26) rfl  k) ?_
      obtain ⟨T205, h205, k205, X205, e205, E205, A205, Ex205, st205⟩ := newPE X0 hx hZ (hw _ (List.mem_of_getElem? (i := 0) rfl)) e0 (g := (mkF m 28 #[.val (.int p0), .val (.int p1), .val (.int p2), .val (.int p3), .val (.int (2 : Int32)), .val (.int (0 : Int32)), .val .null, .unset, .unset, .unset] [(.int (2 : Int32))])) rfl (hb hby at_28) rfl (by decide) (cap := 2) (by decide) (by decide) (by decide) (by decide) (ad := "[I") (by decide)
      obtain ⟨b205, g205⟩ : ∃ z, z = h0.size := ⟨_, rfl⟩
      rw [← g205] at A205 Ex205 st205
      have V205 : Arv Z h205 b205 k205 .int (2 : Int32) [(.int (0 : Int32)), (.int (0 : Int32))] (.int (0 : Int32)) := (Arv.new A205 (by decide)).pad (pad_rep [] (.int (0 : Int32)) 2)
      have gn205 : n0 ≤ b205 := Nat.le_trans Z0 (Nat.le_of_eq g205.symm)
      have Zs205 : n0 ≤ h205.size := Nat.le_trans Z0 E205.1
      refine own_by (V := T205.setTop (mkF m 30 #[.val (.int p0), .val (.int p1), .val (.int p2), .val (.int p3), .val (.int (2 : Int32)), .val (.int (0 : Int32)), .val .null, .unset, .unset, .unset] [(.ref b205)])) st205 ?_
      refine own_by (V := T205.setTop (mkF m 32 #[.val (.int p0), .val (.int p1), .val (.int p2), .val (.int p3), .val (.int (2 : Int32)), .val (.int (0 : Int32)), .val (.ref b205), .unset, .unset, .unset] [])) (fun t k => XS.astore X205.here hx rfl (hb hby at_30) rfl rfl (l' := #[.val (.int p0), .val (.int p1), .val (.int p2), .val (.int p3), .val (.int (2 : Int32)), .val (.int (0 : Int32)), .val (.ref b205), .unset, .unset, .unset]) rfl k) ?_
      refine own_by (V := T205.setTop (mkF m 34 #[.val (.int p0), .val (.int p1), .val (.int p2), .val (.int p3), .val (.int (2 : Int32)), .val (.int (0 : Int32)), .val (.ref b205), .unset, .unset, .unset] [(.int (2 : Int32))])) (fun t k => XS.iload X205.here hx rfl (hb hby at_32) rfl  k) ?_
      have hb34_206 : ((0 : Int32) < (2 : Int32)) := by decide
      refine own_by (V := T205.setTop (mkF m 37 #[.val (.int p0), .val (.int p1), .val (.int p2), .val (.int p3), .val (.int (2 : Int32)), .val (.int (0 : Int32)), .val (.ref b205), .unset, .unset, .unset] [])) (fun t k => XS.ifNo X205.here hx rfl (hb hby at_34) rfl ((if0 _ _).trans (tlt hb34_206).2.2.2) k) ?_
      refine own_by (V := T205.setTop (mkF m 39 #[.val (.int p0), .val (.int p1), .val (.int p2), .val (.int p3), .val (.int (2 : Int32)), .val (.int (0 : Int32)), .val (.ref b205), .unset, .unset, .unset] [(.ref b205)])) (fun t k => XS.aload X205.here hx rfl (hb hby at_37) rfl rfl k) ?_
      refine own_by (V := T205.setTop (mkF m 40 #[.val (.int p0), .val (.int p1), .val (.int p2), .val (.int p3), .val (.int (2 : Int32)), .val (.int (0 : Int32)), .val (.ref b205), .unset, .unset, .unset] [(.int (0 : Int32)), (.ref b205)])) (fun t k => XS.iconst X205.here hx rfl (hb hby at_39) k) ?_
      refine own_by (V := T205.setTop (mkF m 41 #[.val (.int p0), .val (.int p1), .val (.int p2), .val (.int p3), .val (.int (2 : Int32)), .val (.int (0 : Int32)), .val (.ref b205), .unset, .unset, .unset] [(.int p0), (.int (0 : Int32)), (.ref b205)])) (fun t k => XS.iloadN X205.here hx rfl (hb hby at_40) rfl  k) ?_
      obtain ⟨cl207, Ar207, qa207, Sa207, Ma207, Ha207, Ua207⟩ := id V205
      obtain ⟨T208, h208, X208, e208, W208, st208⟩ := stI X205 hx hZ e205 Ar207 (j := (0 : Int32)) (inb_of Sa207 ⟨(by decide), (by decide)⟩) (g := (mkF m 41 #[.val (.int p0), .val (.int p1), .val (.int p2), .val (.int p3), .val (.int (2 : Int32)), .val (.int (0 : Int32)), .val (.ref b205), .unset, .unset, .unset] [(.int p0), (.int (0 : Int32)), (.ref b205)])) rfl rfl (hb hby at_41)
      have N208 := Fr.snoc X208 N0 gn205
      have Zs208 : n0 ≤ h208.size := by rw [W208.size]; exact Zs205
      have f209 := Ex205.wr W208
      have V208 : Arv Z h208 b205 k205 .int (2 : Int32) [(.int p0), (.int (0 : Int32))] (.int (0 : Int32)) := Arv.set Ar207 qa207 Sa207 Ma207 Ha207 Ua207 rfl W208 0 (by decide) (by simp)
      refine own_by (V := T208.setTop (mkF m 42 #[.val (.int p0), .val (.int p1), .val (.int p2), .val (.int p3), .val (.int (2 : Int32)), .val (.int (0 : Int32)), .val (.ref b205), .unset, .unset, .unset] [])) st208 ?_
      refine own_by (V := T208.setTop (mkF m 44 #[.val (.int p0), .val (.int p1), .val (.int p2), .val (.int p3), .val (.int (2 : Int32)), .val (.int (0 : Int32)), .val (.ref b205), .unset, .unset, .unset] [(.int (2 : Int32))])) (fun t k => XS.iload X208.here hx rfl (hb hby at_42) rfl  k) ?_
      refine own_by (V := T208.setTop (mkF m 45 #[.val (.int p0), .val (.int p1), .val (.int p2), .val (.int p3), .val (.int (2 : Int32)), .val (.int (0 : Int32)), .val (.ref b205), .unset, .unset, .unset] [(.int (1 : Int32)), (.int (2 : Int32))])) (fun t k => XS.iconst X208.here hx rfl (hb hby at_44) k) ?_
      have hb45_210 : ((1 : Int32) < (2 : Int32)) := by decide
      refine own_by (V := T208.setTop (mkF m 48 #[.val (.int p0), .val (.int p1), .val (.int p2), .val (.int p3), .val (.int (2 : Int32)), .val (.int (0 : Int32)), .val (.ref b205), .unset, .unset, .unset] [])) (fun t k => XS.icmpNo X208.here hx rfl (hb hby at_45) rfl (tlt hb45_210).2.2.2 k) ?_
      refine own_by (V := T208.setTop (mkF m 50 #[.val (.int p0), .val (.int p1), .val (.int p2), .val (.int p3), .val (.int (2 : Int32)), .val (.int (0 : Int32)), .val (.ref b205), .unset, .unset, .unset] [(.ref b205)])) (fun t k => XS.aload X208.here hx rfl (hb hby at_48) rfl rfl k) ?_
      refine own_by (V := T208.setTop (mkF m 51 #[.val (.int p0), .val (.int p1), .val (.int p2), .val (.int p3), .val (.int (2 : Int32)), .val (.int (0 : Int32)), .val (.ref b205), .unset, .unset, .unset] [(.int (1 : Int32)), (.ref b205)])) (fun t k => XS.iconst X208.here hx rfl (hb hby at_50) k) ?_
      refine own_by (V := T208.setTop (mkF m 52 #[.val (.int p0), .val (.int p1), .val (.int p2), .val (.int p3), .val (.int (2 : Int32)), .val (.int (0 : Int32)), .val (.ref b205), .unset, .unset, .unset] [(.int p1), (.int (1 : Int32)), (.ref b205)])) (fun t k => XS.iloadN X208.here hx rfl (hb hby at_51) rfl  k) ?_
      obtain ⟨cl211, Ar211, qa211, Sa211, Ma211, Ha211, Ua211⟩ := id V208
      obtain ⟨T212, h212, X212, e212, W212, st212⟩ := stI X208 hx hZ e208 Ar211 (j := (1 : Int32)) (inb_of Sa211 ⟨(by decide), (by decide)⟩) (g := (mkF m 52 #[.val (.int p0), .val (.int p1), .val (.int p2), .val (.int p3), .val (.int (2 : Int32)), .val (.int (0 : Int32)), .val (.ref b205), .unset, .unset, .unset] [(.int p1), (.int (1 : Int32)), (.ref b205)])) rfl rfl (hb hby at_52)
      have N212 := Fr.snoc X212 N208 gn205
      have Zs212 : n0 ≤ h212.size := by rw [W212.size]; exact Zs208
      have f213 := f209.wr W212
      have V212 : Arv Z h212 b205 k205 .int (2 : Int32) [(.int p0), (.int p1)] (.int (0 : Int32)) := Arv.set Ar211 qa211 Sa211 Ma211 Ha211 Ua211 rfl W212 1 (by decide) (by simp)
      refine own_by (V := T212.setTop (mkF m 53 #[.val (.int p0), .val (.int p1), .val (.int p2), .val (.int p3), .val (.int (2 : Int32)), .val (.int (0 : Int32)), .val (.ref b205), .unset, .unset, .unset] [])) st212 ?_
      refine own_by (V := T212.setTop (mkF m 55 #[.val (.int p0), .val (.int p1), .val (.int p2), .val (.int p3), .val (.int (2 : Int32)), .val (.int (0 : Int32)), .val (.ref b205), .unset, .unset, .unset] [(.int (2 : Int32))])) (fun t k => XS.iload X212.here hx rfl (hb hby at_53) rfl  k) ?_
      refine own_by (V := T212.setTop (mkF m 56 #[.val (.int p0), .val (.int p1), .val (.int p2), .val (.int p3), .val (.int (2 : Int32)), .val (.int (0 : Int32)), .val (.ref b205), .unset, .unset, .unset] [(.int (2 : Int32)), (.int (2 : Int32))])) (fun t k => XS.iconst X212.here hx rfl (hb hby at_55) k) ?_
      have hb56_214 : ¬ ((2 : Int32) < (2 : Int32)) := by decide
      refine own_by (V := T212.setTop (mkF m 64 #[.val (.int p0), .val (.int p1), .val (.int p2), .val (.int p3), .val (.int (2 : Int32)), .val (.int (0 : Int32)), .val (.ref b205), .unset, .unset, .unset] [])) (fun t k => XS.icmpYes X212.here hx rfl (pc0 := 56) (pc' := 64) rfl (hb hby at_56) rfl (flt hb56_214).2.2.2 (by decide) (by decide) k) ?_
      obtain ⟨T215, h215, X215, e215, E215, A215, D215, -, st215⟩ := newO X212 hx hZ hown (hw _ (List.mem_of_getElem? (i := 1) rfl)) (hw _ (List.mem_of_getElem? (i := 2) rfl)) (hw _ (List.mem_of_getElem? (i := 3) rfl)) e212 (g := (mkF m 64 #[.val (.int p0), .val (.int p1), .val (.int p2), .val (.int p3), .val (.int (2 : Int32)), .val (.int (0 : Int32)), .val (.ref b205), .unset, .unset, .unset] [])) rfl (hb hby at_64) (by decide) (by decide)
      obtain ⟨b215, g215⟩ : ∃ z, z = h212.size := ⟨_, rfl⟩
      rw [← g215] at A215 D215 st215
      have ne216 : b205 ≠ b215 := Nat.ne_of_lt (Nat.lt_of_lt_of_le f213.lt (Nat.le_of_eq g215.symm))
      have f217 := f213.ext E215
      have f218 := V212.ext E215
      have f221 : Fld Z h215 b215 "com/example/nocord/nocord/model/Snapshot" "timestamp" "Lcom/example/nocord/nocord/model/Timestamp;" .null := D215 (Or.inr (hw _ (List.mem_of_getElem? (i := 22) rfl))) (ty := (.object "com/example/nocord/nocord/model/Timestamp")) (by decide)
      have f222 : Fld Z h215 b215 "com/example/nocord/nocord/model/Snapshot" "installing" "[I" .null := D215 (Or.inr (hw _ (List.mem_of_getElem? (i := 33) rfl))) (ty := (.array .int)) (by decide)
      have gn215 : n0 ≤ b215 := Nat.le_trans Zs212 (Nat.le_of_eq g215.symm)
      have Zs215 : n0 ≤ h215.size := Nat.le_trans Zs212 E215.1
      refine own_by (V := T215.setTop (mkF m 67 #[.val (.int p0), .val (.int p1), .val (.int p2), .val (.int p3), .val (.int (2 : Int32)), .val (.int (0 : Int32)), .val (.ref b205), .unset, .unset, .unset] [(.ref b215)])) st215 ?_
      refine own_by (V := T215.setTop (mkF m 68 #[.val (.int p0), .val (.int p1), .val (.int p2), .val (.int p3), .val (.int (2 : Int32)), .val (.int (0 : Int32)), .val (.ref b205), .unset, .unset, .unset] [(.ref b215), (.ref b215)])) (fun t k => XS.dup X215.here hx rfl (hb hby at_67) rfl rfl k) ?_
      obtain ⟨T223, h223, X223, e223, E223, A223, D223, -, st223⟩ := newO X215 hx hZ hown (hw _ (List.mem_of_getElem? (i := 4) rfl)) (hw _ (List.mem_of_getElem? (i := 5) rfl)) (hw _ (List.mem_of_getElem? (i := 6) rfl)) e215 (g := (mkF m 68 #[.val (.int p0), .val (.int p1), .val (.int p2), .val (.int p3), .val (.int (2 : Int32)), .val (.int (0 : Int32)), .val (.ref b205), .unset, .unset, .unset] [(.ref b215), (.ref b215)])) rfl (hb hby at_68) (by decide) (by decide)
      obtain ⟨b223, g223⟩ : ∃ z, z = h215.size := ⟨_, rfl⟩
      rw [← g223] at A223 D223 st223
      have ne224 : b205 ≠ b223 := Nat.ne_of_lt (Nat.lt_of_lt_of_le f217.lt (Nat.le_of_eq g223.symm))
      have ne225 : b215 ≠ b223 := Nat.ne_of_lt (Nat.lt_of_lt_of_le A215.lt (Nat.le_of_eq g223.symm))
      have f226 := f217.ext E223
      have f227 := f218.ext E223
      have f230 := A215.ext E223
      have f231 := f221.ext E223
      have f232 := f222.ext E223
      have f236 : Fld Z h223 b223 "com/example/nocord/nocord/model/Timestamp" "time" "J" (.long (0 : Int64)) := D223 (Or.inr (hw _ (List.mem_of_getElem? (i := 14) rfl))) (ty := .long) (by decide)
      have f237 : Fld Z h223 b223 "com/example/nocord/nocord/model/Timestamp" "client" "J" (.long (0 : Int64)) := D223 (Or.inr (hw _ (List.mem_of_getElem? (i := 16) rfl))) (ty := .long) (by decide)
      have gn223 : n0 ≤ b223 := Nat.le_trans Zs215 (Nat.le_of_eq g223.symm)
      have Zs223 : n0 ≤ h223.size := Nat.le_trans Zs215 E223.1
      refine own_by (V := T223.setTop (mkF m 71 #[.val (.int p0), .val (.int p1), .val (.int p2), .val (.int p3), .val (.int (2 : Int32)), .val (.int (0 : Int32)), .val (.ref b205), .unset, .unset, .unset] [(.ref b223), (.ref b215), (.ref b215)])) st223 ?_
      refine own_by (V := T223.setTop (mkF m 72 #[.val (.int p0), .val (.int p1), .val (.int p2), .val (.int p3), .val (.int (2 : Int32)), .val (.int (0 : Int32)), .val (.ref b205), .unset, .unset, .unset] [(.ref b223), (.ref b223), (.ref b215), (.ref b215)])) (fun t k => XS.dup X223.here hx rfl (hb hby at_71) rfl rfl k) ?_
      refine own_by (V := T223.setTop (mkF m 73 #[.val (.int p0), .val (.int p1), .val (.int p2), .val (.int p3), .val (.int (2 : Int32)), .val (.int (0 : Int32)), .val (.ref b205), .unset, .unset, .unset] [(.int p0), (.ref b223), (.ref b223), (.ref b215), (.ref b215)])) (fun t k => XS.iloadN X223.here hx rfl (hb hby at_72) rfl  k) ?_
      refine own_by (V := T223.setTop (mkF m 74 #[.val (.int p0), .val (.int p1), .val (.int p2), .val (.int p3), .val (.int (2 : Int32)), .val (.int (0 : Int32)), .val (.ref b205), .unset, .unset, .unset] [(.long (p0.toInt64)), (.ref b223), (.ref b223), (.ref b215), (.ref b215)])) (fun t k => XS.i2l X223.here hx rfl (hb hby at_73) rfl k) ?_
      refine own_by (V := T223.setTop (mkF m 75 #[.val (.int p0), .val (.int p1), .val (.int p2), .val (.int p3), .val (.int (2 : Int32)), .val (.int (0 : Int32)), .val (.ref b205), .unset, .unset, .unset] [(.int p1), (.long (p0.toInt64)), (.ref b223), (.ref b223), (.ref b215), (.ref b215)])) (fun t k => XS.iloadN X223.here hx rfl (hb hby at_74) rfl  k) ?_
      refine own_by (V := T223.setTop (mkF m 76 #[.val (.int p0), .val (.int p1), .val (.int p2), .val (.int p3), .val (.int (2 : Int32)), .val (.int (0 : Int32)), .val (.ref b205), .unset, .unset, .unset] [(.long (p1.toInt64)), (.long (p0.toInt64)), (.ref b223), (.ref b223), (.ref b215), (.ref b215)])) (fun t k => XS.i2l X223.here hx rfl (hb hby at_75) rfl k) ?_
      obtain ⟨_, _, ⟨T238, Lq238, kq238, nq238⟩, -, X238, ⟨Lc238, hQ238, lq238, yq238, zq238⟩, st238⟩ := X223.specialBack hx (y := (⟨"com/example/nocord/nocord/model/Timestamp", "<init>", "(JJ)V"⟩ : MethodName)) rfl hown (mvT hZ (hw _ (List.mem_of_getElem? (i := 7) rfl))) (mvT hZ (hw _ (List.mem_of_getElem? (i := 8) rfl))) (mvT hZ (hw _ (List.mem_of_getElem? (i := 9) rfl))) (by decide) (backOf (W := 3) (own_tinit l Z a0 hw [] b223 (p0.toInt64) (p1.toInt64) h223 n0 Zs223 gn223 A223 f236 f237) hZ (hw _ (List.mem_of_getElem? (i := 9) rfl)) (hw _ (List.mem_of_getElem? (i := 6) rfl)) (by decide) (by decide)) (g := (mkF m 76 #[.val (.int p0), .val (.int p1), .val (.int p2), .val (.int p3), .val (.int (2 : Int32)), .val (.int (0 : Int32)), .val (.ref b205), .unset, .unset, .unset] [(.long (p1.toInt64)), (.long (p0.toInt64)), (.ref b223), (.ref b223), (.ref b215), (.ref b215)])) rfl (by rw [hml]; rfl) (Steps.refl _) (a := b223) (argsL := [(.long (p0.toInt64)), (.long (p1.toInt64))]) (rest := [(.ref b223), (.ref b215), (.ref b215)]) (lenOf own_pd5 rfl) rfl (by show 2 * 0 + _ ≤ _; exact Nat.le_of_eq rfl) (hb hby at_76) (fun _ _ => ⟨rfl, e223, (by decide : 3 + 0 ≤ _), (by decide : 6 + 0 ≤ _)⟩)
      dsimp only [Pt.U, Pt.locs, Pt.cells, Pt.slots] at X238 lq238 yq238 zq238 st238 hQ238
      subst lq238 yq238 zq238
      obtain ⟨rfl, N238q, Kc238, Ec238, g238_0, g238_1⟩ := hQ238
      have N238 := Fr.app N212 N238q
      have f239 := f226.keep Kc238
      have f240 := f227.keep Kc238 (ninS ne224 nin0)
      have f241 := f230.keep Kc238
      have f242 := f231.keep Kc238 (ninS ne225 nin0)
      have f243 := f232.keep Kc238 (ninS ne225 nin0)
      have Zs238 : n0 ≤ T238.heap.size := Nat.le_trans Zs223 Kc238.1
      refine own_by (V := T238.setTop (mkF m 79 #[.val (.int p0), .val (.int p1), .val (.int p2), .val (.int p3), .val (.int (2 : Int32)), .val (.int (0 : Int32)), .val (.ref b205), .unset, .unset, .unset] [(.ref b223), (.ref b215), (.ref b215)])) (fun t k => st238.trans k) ?_
      refine own_by (V := T238.setTop (mkF m 81 #[.val (.int p0), .val (.int p1), .val (.int p2), .val (.int p3), .val (.int (2 : Int32)), .val (.int (0 : Int32)), .val (.ref b205), .unset, .unset, .unset] [(.ref b205), (.ref b223), (.ref b215), (.ref b215)])) (fun t k => XS.aload X238.here hx rfl (hb hby at_79) rfl rfl k) ?_
      obtain ⟨_, _, ⟨T244, Lq244, kq244, nq244⟩, -, X244, ⟨Lc244, hQ244, lq244, yq244, zq244⟩, st244⟩ := X238.specialBack hx (y := (⟨"com/example/nocord/nocord/model/Snapshot", "<init>", "(Lcom/example/nocord/nocord/model/Timestamp;[I)V"⟩ : MethodName)) rfl hown (mvT hZ (hw _ (List.mem_of_getElem? (i := 17) rfl))) (mvT hZ (hw _ (List.mem_of_getElem? (i := 18) rfl))) (mvT hZ (hw _ (List.mem_of_getElem? (i := 19) rfl))) (by decide) (backOf (W := 1) (own_snap_2 l Z a0 hw [] b215 b223 b205 k205 p0 p1 T238.heap n0 Zs238 gn215 f241 f242 f243 f240 f239 ne216) hZ (hw _ (List.mem_of_getElem? (i := 19) rfl)) (hw _ (List.mem_of_getElem? (i := 3) rfl)) (by decide) (by decide)) (g := (mkF m 81 #[.val (.int p0), .val (.int p1), .val (.int p2), .val (.int p3), .val (.int (2 : Int32)), .val (.int (0 : Int32)), .val (.ref b205), .unset, .unset, .unset] [(.ref b205), (.ref b223), (.ref b215), (.ref b215)])) rfl (by rw [hml]; rfl) (Steps.refl _) (a := b215) (argsL := [(.ref b223), (.ref b205)]) (rest := [(.ref b215)]) (lenOf own_pd6 rfl) rfl (by show 2 * 0 + _ ≤ _; exact Nat.le_of_eq rfl) (hb hby at_81) (fun _ _ => ⟨rfl, rfl, (by decide : 3 + 1 ≤ _), (by decide : 6 + 2 ≤ _)⟩)
      dsimp only [Pt.U, Pt.locs, Pt.cells, Pt.slots] at X244 lq244 yq244 zq244 st244 hQ244
      subst lq244 yq244 zq244
      obtain ⟨b244, rfl, N244q, Kc244, hf244_b, g244_0, g244_1, g244_2, g244_3, g244_4⟩ := hQ244
      have N244 := Fr.app N238 N244q
      have ne245 : b205 ≠ b244 := Nat.ne_of_lt (Nat.lt_of_lt_of_le f239.lt hf244_b)
      have ne246 : b215 ≠ b244 := Nat.ne_of_lt (Nat.lt_of_lt_of_le f241.lt hf244_b)
      have ne247 : b223 ≠ b244 := Nat.ne_of_lt (Nat.lt_of_lt_of_le Ec238.lt hf244_b)
      have gn244_b : n0 ≤ b244 := Nat.le_trans Zs238 hf244_b
      have f248 := f239.keep Kc244
      have f249 := f240.keep Kc244 (ninS ne216 nin0)
      have f250 := f241.keep Kc244
      have f253 := Ec238.keep Kc244
      have f254 := g238_0.keep Kc244 (ninS (Ne.symm ne225) nin0)
      have f255 := g238_1.keep Kc244 (ninS (Ne.symm ne225) nin0)
      have Zs244 : n0 ≤ T244.heap.size := Nat.le_trans Zs238 Kc244.1
      refine own_by (V := T244.setTop (mkF m 84 #[.val (.int p0), .val (.int p1), .val (.int p2), .val (.int p3), .val (.int (2 : Int32)), .val (.int (0 : Int32)), .val (.ref b205), .unset, .unset, .unset] [(.ref b215)])) (fun t k => st244.trans k) ?_
      refine own_by (V := T244.setTop (mkF m 86 #[.val (.int p0), .val (.int p1), .val (.int p2), .val (.int p3), .val (.int (2 : Int32)), .val (.int (0 : Int32)), .val (.ref b205), .val (.ref b215), .unset, .unset] [])) (fun t k => XS.astore X244.here hx rfl (hb hby at_84) rfl rfl (l' := #[.val (.int p0), .val (.int p1), .val (.int p2), .val (.int p3), .val (.int (2 : Int32)), .val (.int (0 : Int32)), .val (.ref b205), .val (.ref b215), .unset, .unset]) rfl k) ?_
      refine own_by (V := T244.setTop (mkF m 88 #[.val (.int p0), .val (.int p1), .val (.int p2), .val (.int p3), .val (.int (2 : Int32)), .val (.int (0 : Int32)), .val (.ref b205), .val (.ref b215), .unset, .unset] [(.ref b215)])) (fun t k => XS.aload X244.here hx rfl (hb hby at_86) rfl rfl k) ?_
      obtain ⟨cq257, kq257, q257a, q257b, q257c⟩ := isOf hZ rfl g244_0
      obtain ⟨_, _, ⟨T256, Lq256, kq256, nq256⟩, -, X256, ⟨Lc256, hQ256, lq256, yq256, zq256⟩, st256⟩ := X244.virtualBack hx (y := (⟨"com/example/nocord/nocord/model/Snapshot", "installingHashes", "()[I"⟩ : MethodName)) (z := (⟨"com/example/nocord/nocord/model/Snapshot", "installingHashes", "()[I"⟩ : MethodName)) hown (mvT hZ (hw _ (List.mem_of_getElem? (i := 48) rfl))) (mvT hZ (hw _ (List.mem_of_getElem? (i := 49) rfl))) (notFace_of_selects (args := #[]) (mvT hZ (hw _ (List.mem_of_getElem? (i := 51) rfl)))) (mvT hZ (hw _ (List.mem_of_getElem? (i := 51) rfl))) (mvT hZ (hw _ (List.mem_of_getElem? (i := 50) rfl))) (by decide) (backOf (W := 0) (own_hash_2 l Z a0 hw [] b215 b244 k205 (own_min p0 p1) (own_max p0 p1) T244.heap n0 Zs244 g244_2 g244_3 g244_4) hZ (hw _ (List.mem_of_getElem? (i := 52) rfl)) (hw _ (List.mem_of_getElem? (i := 3) rfl)) (by decide) (by decide)) q257a q257c (g := (mkF m 88 #[.val (.int p0), .val (.int p1), .val (.int p2), .val (.int p3), .val (.int (2 : Int32)), .val (.int (0 : Int32)), .val (.ref b205), .val (.ref b215), .unset, .unset] [(.ref b215)])) rfl (by rw [hml]; rfl) (Steps.refl _) (argsL := []) (rest := []) (lenOf own_pd7 rfl) rfl (by show 2 * 0 + _ ≤ _; exact Nat.le_of_eq rfl) (hb hby at_88) (fun _ _ => ⟨rfl, rfl, (by decide : 4 + 1 ≤ _), (by decide : 8 + 2 ≤ _)⟩)
      dsimp only [Pt.U, Pt.locs, Pt.cells, Pt.slots] at X256 lq256 yq256 zq256 st256 hQ256
      subst lq256 yq256 zq256
      obtain ⟨r256, rfl, N256q, Kc256, hf256_r, g256_0, g256_1⟩ := hQ256
      have N256 := Fr.app N244 N256q
      have ne258 : b205 ≠ r256 := Nat.ne_of_lt (Nat.lt_of_lt_of_le f248.lt hf256_r)
      have ne259 : b215 ≠ r256 := Nat.ne_of_lt (Nat.lt_of_lt_of_le g244_0.lt hf256_r)
      have ne260 : b223 ≠ r256 := Nat.ne_of_lt (Nat.lt_of_lt_of_le f253.lt hf256_r)
      have ne261 : b244 ≠ r256 := Nat.ne_of_lt (Nat.lt_of_lt_of_le g244_3.lt hf256_r)
      have gn256_r : n0 ≤ r256 := Nat.le_trans Zs244 hf256_r
      have f262 := f248.keep Kc256
      have f263 := f249.keep Kc256 nin0
      have f264 := g244_0.keep Kc256
      have f265 := f253.keep Kc256
      have f266 := f254.keep Kc256 nin0
      have f267 := f255.keep Kc256 nin0
      have f268 := g244_1.keep Kc256 nin0
      have f269 := g244_2.keep Kc256 nin0
      have f270 := g244_3.keep Kc256 nin0
      have f271 := g244_4.keep Kc256
      have Zs256 : n0 ≤ T256.heap.size := Nat.le_trans Zs244 Kc256.1
      refine own_by (V := T256.setTop (mkF m 91 #[.val (.int p0), .val (.int p1), .val (.int p2), .val (.int p3), .val (.int (2 : Int32)), .val (.int (0 : Int32)), .val (.ref b205), .val (.ref b215), .unset, .unset] [(.ref r256)])) (fun t k => st256.trans k) ?_
      refine own_by (V := T256.setTop (mkF m 93 #[.val (.int p0), .val (.int p1), .val (.int p2), .val (.int p3), .val (.int (2 : Int32)), .val (.int (0 : Int32)), .val (.ref b205), .val (.ref b215), .val (.ref r256), .unset] [])) (fun t k => XS.astore X256.here hx rfl (hb hby at_91) rfl rfl (l' := #[.val (.int p0), .val (.int p1), .val (.int p2), .val (.int p3), .val (.int (2 : Int32)), .val (.int (0 : Int32)), .val (.ref b205), .val (.ref b215), .val (.ref r256), .unset]) rfl k) ?_
      refine own_by (V := T256.setTop (mkF m 95 #[.val (.int p0), .val (.int p1), .val (.int p2), .val (.int p3), .val (.int (2 : Int32)), .val (.int (0 : Int32)), .val (.ref b205), .val (.ref b215), .val (.ref r256), .unset] [(.int (0 : Int32))])) (fun t k => XS.iload X256.here hx rfl (hb hby at_93) rfl  k) ?_
      have hb95_272 : ((0 : Int32) = (0 : Int32)) := rfl
      refine own_by (V := T256.setTop (mkF m 117 #[.val (.int p0), .val (.int p1), .val (.int p2), .val (.int p3), .val (.int (2 : Int32)), .val (.int (0 : Int32)), .val (.ref b205), .val (.ref b215), .val (.ref r256), .unset] [])) (fun t k => XS.ifYes X256.here hx rfl (pc0 := 95) (pc' := 117) rfl (hb hby at_95) rfl ((if0 _ _).trans (teq hb95_272).1) (by decide) (by decide) k) ?_
      refine own_by (V := T256.setTop (mkF m 119 #[.val (.int p0), .val (.int p1), .val (.int p2), .val (.int p3), .val (.int (2 : Int32)), .val (.int (0 : Int32)), .val (.ref b205), .val (.ref b215), .val (.ref r256), .unset] [(.ref r256)])) (fun t k => XS.aload X256.here hx rfl (hb hby at_117) rfl rfl k) ?_
      refine own_by (V := T256.setTop (mkF m 121 #[.val (.int p0), .val (.int p1), .val (.int p2), .val (.int p3), .val (.int (2 : Int32)), .val (.int (0 : Int32)), .val (.ref b205), .val (.ref b215), .val (.ref r256), .unset] [(.int (2 : Int32)), (.ref r256)])) (fun t k => XS.iload X256.here hx rfl (hb hby at_119) rfl  k) ?_
      refine own_by (V := T256.setTop (mkF m 122 #[.val (.int p0), .val (.int p1), .val (.int p2), .val (.int p3), .val (.int (2 : Int32)), .val (.int (0 : Int32)), .val (.ref b205), .val (.ref b215), .val (.ref r256), .unset] [(.int p0), (.int (2 : Int32)), (.ref r256)])) (fun t k => XS.iloadN X256.here hx rfl (hb hby at_121) rfl  k) ?_
      refine own_by (V := T256.setTop (mkF m 123 #[.val (.int p0), .val (.int p1), .val (.int p2), .val (.int p3), .val (.int (2 : Int32)), .val (.int (0 : Int32)), .val (.ref b205), .val (.ref b215), .val (.ref r256), .unset] [(.int p1), (.int p0), (.int (2 : Int32)), (.ref r256)])) (fun t k => XS.iloadN X256.here hx rfl (hb hby at_122) rfl  k) ?_
      refine own_by (V := T256.setTop (mkF m 124 #[.val (.int p0), .val (.int p1), .val (.int p2), .val (.int p3), .val (.int (2 : Int32)), .val (.int (0 : Int32)), .val (.ref b205), .val (.ref b215), .val (.ref r256), .unset] [(.int p2), (.int p1), (.int p0), (.int (2 : Int32)), (.ref r256)])) (fun t k => XS.iloadN X256.here hx rfl (hb hby at_123) rfl  k) ?_
      obtain ⟨_, _, ⟨T273, Lq273, kq273, nq273⟩, -, X273, ⟨Lc273, hQ273, lq273, yq273, zq273⟩, st273⟩ := Jvm.LawKit.callS X256 hx (y := (⟨"com/example/nocord/nocord/model/SnapshotInstallingHashesPinLaw", "matches", "([IIIII)Z"⟩ : MethodName)) hown (mvT hZ (hw _ (List.mem_of_getElem? (i := 53) rfl))) (mvT hZ (hw _ (List.mem_of_getElem? (i := 54) rfl))) (mvT hZ (hw _ (List.mem_of_getElem? (i := 55) rfl))) (mvT hZ (hw _ (List.mem_of_getElem? (i := 56) rfl))) (by decide) (backOf (W := 0) (own_match_2 l Z a0 hw [] r256 p0 p1 p2 k205 T256.heap n0 g256_0) hZ (hw _ (List.mem_of_getElem? (i := 56) rfl)) (hw _ (List.mem_of_getElem? (i := 55) rfl)) (by decide) (by decide)) (g := (mkF m 124 #[.val (.int p0), .val (.int p1), .val (.int p2), .val (.int p3), .val (.int (2 : Int32)), .val (.int (0 : Int32)), .val (.ref b205), .val (.ref b215), .val (.ref r256), .unset] [(.int p2), (.int p1), (.int p0), (.int (2 : Int32)), (.ref r256)])) rfl (by rw [hml]; rfl) (argsL := [(.ref r256), (.int (2 : Int32)), (.int p0), (.int p1), (.int p2)]) (rest := []) (lenOf own_pd8 rfl) rfl (by show 2 * 0 + _ ≤ _; exact Nat.le_of_eq rfl) (hb hby at_124) (fun _ _ => ⟨rfl, rfl, (by decide : 5 + 0 ≤ _), (by decide : 10 + 0 ≤ _)⟩)
      dsimp only [Pt.U, Pt.locs, Pt.cells, Pt.slots] at X273 lq273 yq273 zq273 st273 hQ273
      subst lq273 yq273 zq273
      obtain ⟨rfl, N273q, e273⟩ := hQ273
      have N273 := Fr.app N256 N273q
      refine own_by (V := T273.setTop (mkF m 127 #[.val (.int p0), .val (.int p1), .val (.int p2), .val (.int p3), .val (.int (2 : Int32)), .val (.int (0 : Int32)), .val (.ref b205), .val (.ref b215), .val (.ref r256), .unset] [(.int (1 : Int32))])) st273 ?_
      have hb127_274 : ¬ ((1 : Int32) = (0 : Int32)) := by decide
      refine own_by (V := T273.setTop (mkF m 132 #[.val (.int p0), .val (.int p1), .val (.int p2), .val (.int p3), .val (.int (2 : Int32)), .val (.int (0 : Int32)), .val (.ref b205), .val (.ref b215), .val (.ref r256), .unset] [])) (fun t k => XS.ifYes X273.here hx rfl (pc0 := 127) (pc' := 132) rfl (hb hby at_127) rfl ((if0 _ _).trans (feq hb127_274).2) (by decide) (by decide) k) ?_
      refine own_by (V := T273.setTop (mkF m 134 #[.val (.int p0), .val (.int p1), .val (.int p2), .val (.int p3), .val (.int (2 : Int32)), .val (.int (0 : Int32)), .val (.ref b205), .val (.ref b215), .val (.ref r256), .unset] [(.int (2 : Int32))])) (fun t k => XS.iload X273.here hx rfl (hb hby at_132) rfl  k) ?_
      have hb134_275 : ((0 : Int32) < (2 : Int32)) := by decide
      refine own_by (V := T273.setTop (mkF m 137 #[.val (.int p0), .val (.int p1), .val (.int p2), .val (.int p3), .val (.int (2 : Int32)), .val (.int (0 : Int32)), .val (.ref b205), .val (.ref b215), .val (.ref r256), .unset] [])) (fun t k => XS.ifNo X273.here hx rfl (hb hby at_134) rfl ((if0 _ _).trans (tlt hb134_275).2.2.2) k) ?_
      refine own_by (V := T273.setTop (mkF m 139 #[.val (.int p0), .val (.int p1), .val (.int p2), .val (.int p3), .val (.int (2 : Int32)), .val (.int (0 : Int32)), .val (.ref b205), .val (.ref b215), .val (.ref r256), .unset] [(.ref r256)])) (fun t k => XS.aload X273.here hx rfl (hb hby at_137) rfl rfl k) ?_
      refine own_by (V := T273.setTop (mkF m 140 #[.val (.int p0), .val (.int p1), .val (.int p2), .val (.int p3), .val (.int (2 : Int32)), .val (.int (0 : Int32)), .val (.ref b205), .val (.ref b215), .val (.ref r256), .unset] [(.int (0 : Int32)), (.ref r256)])) (fun t k => XS.iconst X273.here hx rfl (hb hby at_139) k) ?_
      refine own_by (V := T273.setTop (mkF m 142 #[.val (.int p0), .val (.int p1), .val (.int p2), .val (.int p3), .val (.int (2 : Int32)), .val (.int (0 : Int32)), .val (.ref b205), .val (.ref b215), .val (.ref r256), .unset] [(.ref r256), (.int (0 : Int32)), (.ref r256)])) (fun t k => XS.aload X273.here hx rfl (hb hby at_140) rfl rfl k) ?_
      refine own_by (V := T273.setTop (mkF m 143 #[.val (.int p0), .val (.int p1), .val (.int p2), .val (.int p3), .val (.int (2 : Int32)), .val (.int (0 : Int32)), .val (.ref b205), .val (.ref b215), .val (.ref r256), .unset] [(.int (0 : Int32)), (.ref r256), (.int (0 : Int32)), (.ref r256)])) (fun t k => XS.iconst X273.here hx rfl (hb hby at_142) k) ?_
      obtain ⟨cl276, Ar276, qa276, Sa276, Ma276, Ha276, Ua276⟩ := id g256_0
      have hi276 := inb_of Sa276 (j := (0 : Int32)) ⟨(by decide), (by decide)⟩
      refine own_by (V := T273.setTop (mkF m 144 #[.val (.int p0), .val (.int p1), .val (.int p2), .val (.int p3), .val (.int (2 : Int32)), .val (.int (0 : Int32)), .val (.ref b205), .val (.ref b215), .val (.ref r256), .unset] [(.int (own_min p0 p1)), (.int (0 : Int32)), (.ref r256)])) (X273.iaload hx (j := (0 : Int32)) (v := (.int (own_min p0 p1))) (by rw [e273]; exact Ar276.1) (State.isArrayOf_alike hZ.alike Ar276.2.1) Ar276.2.2 hi276 (Has.at Ha276 hi276 rfl) (g := (mkF m 143 #[.val (.int p0), .val (.int p1), .val (.int p2), .val (.int p3), .val (.int (2 : Int32)), .val (.int (0 : Int32)), .val (.ref b205), .val (.ref b215), .val (.ref r256), .unset] [(.int (0 : Int32)), (.ref r256), (.int (0 : Int32)), (.ref r256)])) rfl rfl (hb hby at_143)) ?_
      refine own_by (V := T273.setTop (mkF m 145 #[.val (.int p0), .val (.int p1), .val (.int p2), .val (.int p3), .val (.int (2 : Int32)), .val (.int (0 : Int32)), .val (.ref b205), .val (.ref b215), .val (.ref r256), .unset] [(.int (1 : Int32)), (.int (own_min p0 p1)), (.int (0 : Int32)), (.ref r256)])) (fun t k => XS.iconst X273.here hx rfl (hb hby at_144) k) ?_
      refine own_by (V := T273.setTop (mkF m 146 #[.val (.int p0), .val (.int p1), .val (.int p2), .val (.int p3), .val (.int (2 : Int32)), .val (.int (0 : Int32)), .val (.ref b205), .val (.ref b215), .val (.ref r256), .unset] [(.int ((own_min p0 p1) ^^^ (1 : Int32))), (.int (0 : Int32)), (.ref r256)])) (fun t k => XS.ixor X273.here hx rfl (hb hby at_145) rfl k) ?_
      obtain ⟨cl277, Ar277, qa277, Sa277, Ma277, Ha277, Ua277⟩ := id g256_0
      obtain ⟨T278, h278, X278, e278, W278, st278⟩ := stI X273 hx hZ e273 Ar277 (j := (0 : Int32)) (inb_of Sa277 ⟨(by decide), (by decide)⟩) (g := (mkF m 146 #[.val (.int p0), .val (.int p1), .val (.int p2), .val (.int p3), .val (.int (2 : Int32)), .val (.int (0 : Int32)), .val (.ref b205), .val (.ref b215), .val (.ref r256), .unset] [(.int ((own_min p0 p1) ^^^ (1 : Int32))), (.int (0 : Int32)), (.ref r256)])) rfl rfl (hb hby at_146)
      have N278 := Fr.snoc X278 N273 gn256_r
      have Zs278 : n0 ≤ h278.size := by rw [W278.size]; exact Zs256
      have f279 := f262.wr W278
      have f280 := f263.other W278 ne258
      have f281 := f264.wr W278
      have f282 := f265.wr W278
      have f283 := f266.other W278 (Or.inl ne260)
      have f284 := f267.other W278 (Or.inl ne260)
      have f285 := f268.other W278 (Or.inl ne259)
      have f286 := f269.other W278 (Or.inl ne259)
      have f287 := f270.other W278 ne261
      have f288 := f271.wr W278
      have f289 := g256_1.wr W278
      have V278 : Arv Z h278 r256 k205 .int (2 : Int32) [(.int ((own_min p0 p1) ^^^ (1 : Int32))), (.int (own_max p0 p1))] (.int (0 : Int32)) := Arv.set Ar277 qa277 Sa277 Ma277 Ha277 Ua277 rfl W278 0 (by decide) (by simp)
      refine own_by (V := T278.setTop (mkF m 147 #[.val (.int p0), .val (.int p1), .val (.int p2), .val (.int p3), .val (.int (2 : Int32)), .val (.int (0 : Int32)), .val (.ref b205), .val (.ref b215), .val (.ref r256), .unset] [])) st278 ?_
      refine own_by (V := T278.setTop (mkF m 149 #[.val (.int p0), .val (.int p1), .val (.int p2), .val (.int p3), .val (.int (2 : Int32)), .val (.int (0 : Int32)), .val (.ref b205), .val (.ref b215), .val (.ref r256), .unset] [(.ref b205)])) (fun t k => XS.aload X278.here hx rfl (hb hby at_147) rfl rfl k) ?_
      refine own_by (V := T278.setTop (mkF m 150 #[.val (.int p0), .val (.int p1), .val (.int p2), .val (.int p3), .val (.int (2 : Int32)), .val (.int (0 : Int32)), .val (.ref b205), .val (.ref b215), .val (.ref r256), .unset] [(.int (0 : Int32)), (.ref b205)])) (fun t k => XS.iconst X278.here hx rfl (hb hby at_149) k) ?_
      refine own_by (V := T278.setTop (mkF m 152 #[.val (.int p0), .val (.int p1), .val (.int p2), .val (.int p3), .val (.int (2 : Int32)), .val (.int (0 : Int32)), .val (.ref b205), .val (.ref b215), .val (.ref r256), .unset] [(.ref b205), (.int (0 : Int32)), (.ref b205)])) (fun t k => XS.aload X278.here hx rfl (hb hby at_150) rfl rfl k) ?_
      refine own_by (V := T278.setTop (mkF m 153 #[.val (.int p0), .val (.int p1), .val (.int p2), .val (.int p3), .val (.int (2 : Int32)), .val (.int (0 : Int32)), .val (.ref b205), .val (.ref b215), .val (.ref r256), .unset] [(.int (0 : Int32)), (.ref b205), (.int (0 : Int32)), (.ref b205)])) (fun t k => XS.iconst X278.here hx rfl (hb hby at_152) k) ?_
      obtain ⟨cl290, Ar290, qa290, Sa290, Ma290, Ha290, Ua290⟩ := id f280
      have hi290 := inb_of Sa290 (j := (0 : Int32)) ⟨(by decide), (by decide)⟩
      refine own_by (V := T278.setTop (mkF m 154 #[.val (.int p0), .val (.int p1), .val (.int p2), .val (.int p3), .val (.int (2 : Int32)), .val (.int (0 : Int32)), .val (.ref b205), .val (.ref b215), .val (.ref r256), .unset] [(.int p0), (.int (0 : Int32)), (.ref b205)])) (X278.iaload hx (j := (0 : Int32)) (v := (.int p0)) (by rw [e278]; exact Ar290.1) (State.isArrayOf_alike hZ.alike Ar290.2.1) Ar290.2.2 hi290 (Has.at Ha290 hi290 rfl) (g := (mkF m 153 #[.val (.int p0), .val (.int p1), .val (.int p2), .val (.int p3), .val (.int (2 : Int32)), .val (.int (0 : Int32)), .val (.ref b205), .val (.ref b215), .val (.ref r256), .unset] [(.int (0 : Int32)), (.ref b205), (.int (0 : Int32)), (.ref b205)])) rfl rfl (hb hby at_153)) ?_
      refine own_by (V := T278.setTop (mkF m 155 #[.val (.int p0), .val (.int p1), .val (.int p2), .val (.int p3), .val (.int (2 : Int32)), .val (.int (0 : Int32)), .val (.ref b205), .val (.ref b215), .val (.ref r256), .unset] [(.int (1 : Int32)), (.int p0), (.int (0 : Int32)), (.ref b205)])) (fun t k => XS.iconst X278.here hx rfl (hb hby at_154) k) ?_
      refine own_by (V := T278.setTop (mkF m 156 #[.val (.int p0), .val (.int p1), .val (.int p2), .val (.int p3), .val (.int (2 : Int32)), .val (.int (0 : Int32)), .val (.ref b205), .val (.ref b215), .val (.ref r256), .unset] [(.int (p0 ^^^ (1 : Int32))), (.int (0 : Int32)), (.ref b205)])) (fun t k => XS.ixor X278.here hx rfl (hb hby at_155) rfl k) ?_
      obtain ⟨cl291, Ar291, qa291, Sa291, Ma291, Ha291, Ua291⟩ := id f280
      obtain ⟨T292, h292, X292, e292, W292, st292⟩ := stI X278 hx hZ e278 Ar291 (j := (0 : Int32)) (inb_of Sa291 ⟨(by decide), (by decide)⟩) (g := (mkF m 156 #[.val (.int p0), .val (.int p1), .val (.int p2), .val (.int p3), .val (.int (2 : Int32)), .val (.int (0 : Int32)), .val (.ref b205), .val (.ref b215), .val (.ref r256), .unset] [(.int (p0 ^^^ (1 : Int32))), (.int (0 : Int32)), (.ref b205)])) rfl rfl (hb hby at_156)
      have N292 := Fr.snoc X292 N278 gn205
      have Zs292 : n0 ≤ h292.size := by rw [W292.size]; exact Zs278
      have f293 := f279.wr W292
      have f294 := f281.wr W292
      have f295 := f282.wr W292
      have f296 := f283.other W292 (Or.inl (Ne.symm ne224))
      have f297 := f284.other W292 (Or.inl (Ne.symm ne224))
      have f298 := f285.other W292 (Or.inl (Ne.symm ne216))
      have f299 := f286.other W292 (Or.inl (Ne.symm ne216))
      have f300 := f287.other W292 (Ne.symm ne245)
      have f301 := f288.wr W292
      have f302 := V278.other W292 (Ne.symm ne258)
      have f303 := f289.wr W292
      have V292 : Arv Z h292 b205 k205 .int (2 : Int32) [(.int (p0 ^^^ (1 : Int32))), (.int p1)] (.int (0 : Int32)) := Arv.set Ar291 qa291 Sa291 Ma291 Ha291 Ua291 rfl W292 0 (by decide) (by simp)
      refine own_by (V := T292.setTop (mkF m 157 #[.val (.int p0), .val (.int p1), .val (.int p2), .val (.int p3), .val (.int (2 : Int32)), .val (.int (0 : Int32)), .val (.ref b205), .val (.ref b215), .val (.ref r256), .unset] [])) st292 ?_
      refine own_by (V := T292.setTop (mkF m 159 #[.val (.int p0), .val (.int p1), .val (.int p2), .val (.int p3), .val (.int (2 : Int32)), .val (.int (0 : Int32)), .val (.ref b205), .val (.ref b215), .val (.ref r256), .unset] [(.ref b215)])) (fun t k => XS.aload X292.here hx rfl (hb hby at_157) rfl rfl k) ?_
      obtain ⟨cq305, kq305, q305a, q305b, q305c⟩ := isOf hZ e292 f294
      obtain ⟨_, _, ⟨T304, Lq304, kq304, nq304⟩, -, X304, ⟨Lc304, hQ304, lq304, yq304, zq304⟩, st304⟩ := X292.virtualBack hx (y := (⟨"com/example/nocord/nocord/model/Snapshot", "installingHashes", "()[I"⟩ : MethodName)) (z := (⟨"com/example/nocord/nocord/model/Snapshot", "installingHashes", "()[I"⟩ : MethodName)) hown (mvT hZ (hw _ (List.mem_of_getElem? (i := 48) rfl))) (mvT hZ (hw _ (List.mem_of_getElem? (i := 49) rfl))) (notFace_of_selects (args := #[]) (mvT hZ (hw _ (List.mem_of_getElem? (i := 51) rfl)))) (mvT hZ (hw _ (List.mem_of_getElem? (i := 51) rfl))) (mvT hZ (hw _ (List.mem_of_getElem? (i := 50) rfl))) (by decide) (backOf (W := 0) (own_hash_2 l Z a0 hw [] b215 b244 k205 (own_min p0 p1) (own_max p0 p1) h292 n0 Zs292 f299 f300 f301) hZ (hw _ (List.mem_of_getElem? (i := 52) rfl)) (hw _ (List.mem_of_getElem? (i := 3) rfl)) (by decide) (by decide)) q305a q305c (g := (mkF m 159 #[.val (.int p0), .val (.int p1), .val (.int p2), .val (.int p3), .val (.int (2 : Int32)), .val (.int (0 : Int32)), .val (.ref b205), .val (.ref b215), .val (.ref r256), .unset] [(.ref b215)])) rfl (by rw [hml]; rfl) (Steps.refl _) (argsL := []) (rest := []) (lenOf own_pd7 rfl) rfl (by show 2 * 0 + _ ≤ _; exact Nat.le_of_eq rfl) (hb hby at_159) (fun _ _ => ⟨rfl, e292, (by decide : 5 + 1 ≤ _), (by decide : 10 + 2 ≤ _)⟩)
      dsimp only [Pt.U, Pt.locs, Pt.cells, Pt.slots] at X304 lq304 yq304 zq304 st304 hQ304
      subst lq304 yq304 zq304
      obtain ⟨r304, rfl, N304q, Kc304, hf304_r, g304_0, g304_1⟩ := hQ304
      have N304 := Fr.app N292 N304q
      have ne306 : b205 ≠ r304 := Nat.ne_of_lt (Nat.lt_of_lt_of_le f293.lt hf304_r)
      have ne307 : b215 ≠ r304 := Nat.ne_of_lt (Nat.lt_of_lt_of_le f294.lt hf304_r)
      have ne308 : b223 ≠ r304 := Nat.ne_of_lt (Nat.lt_of_lt_of_le f295.lt hf304_r)
      have ne309 : b244 ≠ r304 := Nat.ne_of_lt (Nat.lt_of_lt_of_le f300.lt hf304_r)
      have ne310 : r256 ≠ r304 := Nat.ne_of_lt (Nat.lt_of_lt_of_le f302.lt hf304_r)
      have gn304_r : n0 ≤ r304 := Nat.le_trans Zs292 hf304_r
      have f311 := f293.keep Kc304
      have f312 := V292.keep Kc304 nin0
      have f313 := f294.keep Kc304
      have f314 := f295.keep Kc304
      have f315 := f296.keep Kc304 nin0
      have f316 := f297.keep Kc304 nin0
      have f317 := f298.keep Kc304 nin0
      have f318 := f299.keep Kc304 nin0
      have f319 := f300.keep Kc304 nin0
      have f320 := f301.keep Kc304
      have f321 := f302.keep Kc304 nin0
      have f322 := f303.keep Kc304
      have Zs304 : n0 ≤ T304.heap.size := Nat.le_trans Zs292 Kc304.1
      refine own_by (V := T304.setTop (mkF m 162 #[.val (.int p0), .val (.int p1), .val (.int p2), .val (.int p3), .val (.int (2 : Int32)), .val (.int (0 : Int32)), .val (.ref b205), .val (.ref b215), .val (.ref r256), .unset] [(.ref r304)])) (fun t k => st304.trans k) ?_
      refine own_by (V := T304.setTop (mkF m 164 #[.val (.int p0), .val (.int p1), .val (.int p2), .val (.int p3), .val (.int (2 : Int32)), .val (.int (0 : Int32)), .val (.ref b205), .val (.ref b215), .val (.ref r256), .val (.ref r304)] [])) (fun t k => XS.astore X304.here hx rfl (hb hby at_162) rfl rfl (l' := #[.val (.int p0), .val (.int p1), .val (.int p2), .val (.int p3), .val (.int (2 : Int32)), .val (.int (0 : Int32)), .val (.ref b205), .val (.ref b215), .val (.ref r256), .val (.ref r304)]) rfl k) ?_
      refine own_by (V := T304.setTop (mkF m 166 #[.val (.int p0), .val (.int p1), .val (.int p2), .val (.int p3), .val (.int (2 : Int32)), .val (.int (0 : Int32)), .val (.ref b205), .val (.ref b215), .val (.ref r256), .val (.ref r304)] [(.ref r304)])) (fun t k => XS.aload X304.here hx rfl (hb hby at_164) rfl rfl k) ?_
      refine own_by (V := T304.setTop (mkF m 168 #[.val (.int p0), .val (.int p1), .val (.int p2), .val (.int p3), .val (.int (2 : Int32)), .val (.int (0 : Int32)), .val (.ref b205), .val (.ref b215), .val (.ref r256), .val (.ref r304)] [(.int (2 : Int32)), (.ref r304)])) (fun t k => XS.iload X304.here hx rfl (hb hby at_166) rfl  k) ?_
      refine own_by (V := T304.setTop (mkF m 169 #[.val (.int p0), .val (.int p1), .val (.int p2), .val (.int p3), .val (.int (2 : Int32)), .val (.int (0 : Int32)), .val (.ref b205), .val (.ref b215), .val (.ref r256), .val (.ref r304)] [(.int p0), (.int (2 : Int32)), (.ref r304)])) (fun t k => XS.iloadN X304.here hx rfl (hb hby at_168) rfl  k) ?_
      refine own_by (V := T304.setTop (mkF m 170 #[.val (.int p0), .val (.int p1), .val (.int p2), .val (.int p3), .val (.int (2 : Int32)), .val (.int (0 : Int32)), .val (.ref b205), .val (.ref b215), .val (.ref r256), .val (.ref r304)] [(.int p1), (.int p0), (.int (2 : Int32)), (.ref r304)])) (fun t k => XS.iloadN X304.here hx rfl (hb hby at_169) rfl  k) ?_
      refine own_by (V := T304.setTop (mkF m 171 #[.val (.int p0), .val (.int p1), .val (.int p2), .val (.int p3), .val (.int (2 : Int32)), .val (.int (0 : Int32)), .val (.ref b205), .val (.ref b215), .val (.ref r256), .val (.ref r304)] [(.int p2), (.int p1), (.int p0), (.int (2 : Int32)), (.ref r304)])) (fun t k => XS.iloadN X304.here hx rfl (hb hby at_170) rfl  k) ?_
      obtain ⟨_, _, ⟨T323, Lq323, kq323, nq323⟩, -, X323, ⟨Lc323, hQ323, lq323, yq323, zq323⟩, st323⟩ := Jvm.LawKit.callS X304 hx (y := (⟨"com/example/nocord/nocord/model/SnapshotInstallingHashesPinLaw", "matches", "([IIIII)Z"⟩ : MethodName)) hown (mvT hZ (hw _ (List.mem_of_getElem? (i := 53) rfl))) (mvT hZ (hw _ (List.mem_of_getElem? (i := 54) rfl))) (mvT hZ (hw _ (List.mem_of_getElem? (i := 55) rfl))) (mvT hZ (hw _ (List.mem_of_getElem? (i := 56) rfl))) (by decide) (backOf (W := 0) (own_match_2 l Z a0 hw [] r304 p0 p1 p2 k205 T304.heap n0 g304_0) hZ (hw _ (List.mem_of_getElem? (i := 56) rfl)) (hw _ (List.mem_of_getElem? (i := 55) rfl)) (by decide) (by decide)) (g := (mkF m 171 #[.val (.int p0), .val (.int p1), .val (.int p2), .val (.int p3), .val (.int (2 : Int32)), .val (.int (0 : Int32)), .val (.ref b205), .val (.ref b215), .val (.ref r256), .val (.ref r304)] [(.int p2), (.int p1), (.int p0), (.int (2 : Int32)), (.ref r304)])) rfl (by rw [hml]; rfl) (argsL := [(.ref r304), (.int (2 : Int32)), (.int p0), (.int p1), (.int p2)]) (rest := []) (lenOf own_pd8 rfl) rfl (by show 2 * 0 + _ ≤ _; exact Nat.le_of_eq rfl) (hb hby at_171) (fun _ _ => ⟨rfl, rfl, (by decide : 6 + 0 ≤ _), (by decide : 12 + 0 ≤ _)⟩)
      dsimp only [Pt.U, Pt.locs, Pt.cells, Pt.slots] at X323 lq323 yq323 zq323 st323 hQ323
      subst lq323 yq323 zq323
      obtain ⟨rfl, N323q, e323⟩ := hQ323
      have N323 := Fr.app N304 N323q
      refine own_by (V := T323.setTop (mkF m 174 #[.val (.int p0), .val (.int p1), .val (.int p2), .val (.int p3), .val (.int (2 : Int32)), .val (.int (0 : Int32)), .val (.ref b205), .val (.ref b215), .val (.ref r256), .val (.ref r304)] [(.int (1 : Int32))])) st323 ?_
      refine own_retN X323 hx hlk e323 Bd.returns (t := .boolean) (by simp) rfl (hb hby at_174) ?_ (by decide) (by decide)
      exact ⟨rfl, N323⟩
    · obtain rfl : z1 = (3 : Int32) := hz1.trans q
      refine own_by (V := s₁.setTop (mkF m 28 #[.val (.int p0), .val (.int p1), .val (.int p2), .val (.int p3), .val (.int (3 : Int32)), .val (.int (0 : Int32)), .val .null, .unset, .unset, .unset] [(.int (3 : Int32))])) (fun t k => XS.iload X0.here hx rfl (hb hby at_26) rfl  k) ?_
      obtain ⟨T324, h324, k324, X324, e324, E324, A324, Ex324, st324⟩ := newPE X0 hx hZ (hw _ (List.mem_of_getElem? (i := 0) rfl)) e0 (g := (mkF m 28 #[.val (.int p0), .val (.int p1), .val (.int p2), .val (.int p3), .val (.int (3 : Int32)), .val (.int (0 : Int32)), .val .null, .unset, .unset, .unset] [(.int (3 : Int32))])) rfl (hb hby at_28) rfl (by decide) (cap := 3) (by decide) (by decide) (by decide) (by decide) (ad := "[I") (by decide)
      obtain ⟨b324, g324⟩ : ∃ z, z = h0.size := ⟨_, rfl⟩
      rw [← g324] at A324 Ex324 st324
      have V324 : Arv Z h324 b324 k324 .int (3 : Int32) [(.int (0 : Int32)), (.int (0 : Int32)), (.int (0 : Int32))] (.int (0 : Int32)) := (Arv.new A324 (by decide)).pad (pad_rep [] (.int (0 : Int32)) 3)
      have gn324 : n0 ≤ b324 := Nat.le_trans Z0 (Nat.le_of_eq g324.symm)
      have Zs324 : n0 ≤ h324.size := Nat.le_trans Z0 E324.1
      refine own_by (V := T324.setTop (mkF m 30 #[.val (.int p0), .val (.int p1), .val (.int p2), .val (.int p3), .val (.int (3 : Int32)), .val (.int (0 : Int32)), .val .null, .unset, .unset, .unset] [(.ref b324)])) st324 ?_
      refine own_by (V := T324.setTop (mkF m 32 #[.val (.int p0), .val (.int p1), .val (.int p2), .val (.int p3), .val (.int (3 : Int32)), .val (.int (0 : Int32)), .val (.ref b324), .unset, .unset, .unset] [])) (fun t k => XS.astore X324.here hx rfl (hb hby at_30) rfl rfl (l' := #[.val (.int p0), .val (.int p1), .val (.int p2), .val (.int p3), .val (.int (3 : Int32)), .val (.int (0 : Int32)), .val (.ref b324), .unset, .unset, .unset]) rfl k) ?_
      refine own_by (V := T324.setTop (mkF m 34 #[.val (.int p0), .val (.int p1), .val (.int p2), .val (.int p3), .val (.int (3 : Int32)), .val (.int (0 : Int32)), .val (.ref b324), .unset, .unset, .unset] [(.int (3 : Int32))])) (fun t k => XS.iload X324.here hx rfl (hb hby at_32) rfl  k) ?_
      have hb34_325 : ((0 : Int32) < (3 : Int32)) := by decide
      refine own_by (V := T324.setTop (mkF m 37 #[.val (.int p0), .val (.int p1), .val (.int p2), .val (.int p3), .val (.int (3 : Int32)), .val (.int (0 : Int32)), .val (.ref b324), .unset, .unset, .unset] [])) (fun t k => XS.ifNo X324.here hx rfl (hb hby at_34) rfl ((if0 _ _).trans (tlt hb34_325).2.2.2) k) ?_
      refine own_by (V := T324.setTop (mkF m 39 #[.val (.int p0), .val (.int p1), .val (.int p2), .val (.int p3), .val (.int (3 : Int32)), .val (.int (0 : Int32)), .val (.ref b324), .unset, .unset, .unset] [(.ref b324)])) (fun t k => XS.aload X324.here hx rfl (hb hby at_37) rfl rfl k) ?_
      refine own_by (V := T324.setTop (mkF m 40 #[.val (.int p0), .val (.int p1), .val (.int p2), .val (.int p3), .val (.int (3 : Int32)), .val (.int (0 : Int32)), .val (.ref b324), .unset, .unset, .unset] [(.int (0 : Int32)), (.ref b324)])) (fun t k => XS.iconst X324.here hx rfl (hb hby at_39) k) ?_
      refine own_by (V := T324.setTop (mkF m 41 #[.val (.int p0), .val (.int p1), .val (.int p2), .val (.int p3), .val (.int (3 : Int32)), .val (.int (0 : Int32)), .val (.ref b324), .unset, .unset, .unset] [(.int p0), (.int (0 : Int32)), (.ref b324)])) (fun t k => XS.iloadN X324.here hx rfl (hb hby at_40) rfl  k) ?_
      obtain ⟨cl326, Ar326, qa326, Sa326, Ma326, Ha326, Ua326⟩ := id V324
      obtain ⟨T327, h327, X327, e327, W327, st327⟩ := stI X324 hx hZ e324 Ar326 (j := (0 : Int32)) (inb_of Sa326 ⟨(by decide), (by decide)⟩) (g := (mkF m 41 #[.val (.int p0), .val (.int p1), .val (.int p2), .val (.int p3), .val (.int (3 : Int32)), .val (.int (0 : Int32)), .val (.ref b324), .unset, .unset, .unset] [(.int p0), (.int (0 : Int32)), (.ref b324)])) rfl rfl (hb hby at_41)
      have N327 := Fr.snoc X327 N0 gn324
      have Zs327 : n0 ≤ h327.size := by rw [W327.size]; exact Zs324
      have f328 := Ex324.wr W327
      have V327 : Arv Z h327 b324 k324 .int (3 : Int32) [(.int p0), (.int (0 : Int32)), (.int (0 : Int32))] (.int (0 : Int32)) := Arv.set Ar326 qa326 Sa326 Ma326 Ha326 Ua326 rfl W327 0 (by decide) (by simp)
      refine own_by (V := T327.setTop (mkF m 42 #[.val (.int p0), .val (.int p1), .val (.int p2), .val (.int p3), .val (.int (3 : Int32)), .val (.int (0 : Int32)), .val (.ref b324), .unset, .unset, .unset] [])) st327 ?_
      refine own_by (V := T327.setTop (mkF m 44 #[.val (.int p0), .val (.int p1), .val (.int p2), .val (.int p3), .val (.int (3 : Int32)), .val (.int (0 : Int32)), .val (.ref b324), .unset, .unset, .unset] [(.int (3 : Int32))])) (fun t k => XS.iload X327.here hx rfl (hb hby at_42) rfl  k) ?_
      refine own_by (V := T327.setTop (mkF m 45 #[.val (.int p0), .val (.int p1), .val (.int p2), .val (.int p3), .val (.int (3 : Int32)), .val (.int (0 : Int32)), .val (.ref b324), .unset, .unset, .unset] [(.int (1 : Int32)), (.int (3 : Int32))])) (fun t k => XS.iconst X327.here hx rfl (hb hby at_44) k) ?_
      have hb45_329 : ((1 : Int32) < (3 : Int32)) := by decide
      refine own_by (V := T327.setTop (mkF m 48 #[.val (.int p0), .val (.int p1), .val (.int p2), .val (.int p3), .val (.int (3 : Int32)), .val (.int (0 : Int32)), .val (.ref b324), .unset, .unset, .unset] [])) (fun t k => XS.icmpNo X327.here hx rfl (hb hby at_45) rfl (tlt hb45_329).2.2.2 k) ?_
      refine own_by (V := T327.setTop (mkF m 50 #[.val (.int p0), .val (.int p1), .val (.int p2), .val (.int p3), .val (.int (3 : Int32)), .val (.int (0 : Int32)), .val (.ref b324), .unset, .unset, .unset] [(.ref b324)])) (fun t k => XS.aload X327.here hx rfl (hb hby at_48) rfl rfl k) ?_
      refine own_by (V := T327.setTop (mkF m 51 #[.val (.int p0), .val (.int p1), .val (.int p2), .val (.int p3), .val (.int (3 : Int32)), .val (.int (0 : Int32)), .val (.ref b324), .unset, .unset, .unset] [(.int (1 : Int32)), (.ref b324)])) (fun t k => XS.iconst X327.here hx rfl (hb hby at_50) k) ?_
      refine own_by (V := T327.setTop (mkF m 52 #[.val (.int p0), .val (.int p1), .val (.int p2), .val (.int p3), .val (.int (3 : Int32)), .val (.int (0 : Int32)), .val (.ref b324), .unset, .unset, .unset] [(.int p1), (.int (1 : Int32)), (.ref b324)])) (fun t k => XS.iloadN X327.here hx rfl (hb hby at_51) rfl  k) ?_
      obtain ⟨cl330, Ar330, qa330, Sa330, Ma330, Ha330, Ua330⟩ := id V327
      obtain ⟨T331, h331, X331, e331, W331, st331⟩ := stI X327 hx hZ e327 Ar330 (j := (1 : Int32)) (inb_of Sa330 ⟨(by decide), (by decide)⟩) (g := (mkF m 52 #[.val (.int p0), .val (.int p1), .val (.int p2), .val (.int p3), .val (.int (3 : Int32)), .val (.int (0 : Int32)), .val (.ref b324), .unset, .unset, .unset] [(.int p1), (.int (1 : Int32)), (.ref b324)])) rfl rfl (hb hby at_52)
      have N331 := Fr.snoc X331 N327 gn324
      have Zs331 : n0 ≤ h331.size := by rw [W331.size]; exact Zs327
      have f332 := f328.wr W331
      have V331 : Arv Z h331 b324 k324 .int (3 : Int32) [(.int p0), (.int p1), (.int (0 : Int32))] (.int (0 : Int32)) := Arv.set Ar330 qa330 Sa330 Ma330 Ha330 Ua330 rfl W331 1 (by decide) (by simp)
      refine own_by (V := T331.setTop (mkF m 53 #[.val (.int p0), .val (.int p1), .val (.int p2), .val (.int p3), .val (.int (3 : Int32)), .val (.int (0 : Int32)), .val (.ref b324), .unset, .unset, .unset] [])) st331 ?_
      refine own_by (V := T331.setTop (mkF m 55 #[.val (.int p0), .val (.int p1), .val (.int p2), .val (.int p3), .val (.int (3 : Int32)), .val (.int (0 : Int32)), .val (.ref b324), .unset, .unset, .unset] [(.int (3 : Int32))])) (fun t k => XS.iload X331.here hx rfl (hb hby at_53) rfl  k) ?_
      refine own_by (V := T331.setTop (mkF m 56 #[.val (.int p0), .val (.int p1), .val (.int p2), .val (.int p3), .val (.int (3 : Int32)), .val (.int (0 : Int32)), .val (.ref b324), .unset, .unset, .unset] [(.int (2 : Int32)), (.int (3 : Int32))])) (fun t k => XS.iconst X331.here hx rfl (hb hby at_55) k) ?_
      have hb56_333 : ((2 : Int32) < (3 : Int32)) := by decide
      refine own_by (V := T331.setTop (mkF m 59 #[.val (.int p0), .val (.int p1), .val (.int p2), .val (.int p3), .val (.int (3 : Int32)), .val (.int (0 : Int32)), .val (.ref b324), .unset, .unset, .unset] [])) (fun t k => XS.icmpNo X331.here hx rfl (hb hby at_56) rfl (tlt hb56_333).2.2.2 k) ?_
      refine own_by (V := T331.setTop (mkF m 61 #[.val (.int p0), .val (.int p1), .val (.int p2), .val (.int p3), .val (.int (3 : Int32)), .val (.int (0 : Int32)), .val (.ref b324), .unset, .unset, .unset] [(.ref b324)])) (fun t k => XS.aload X331.here hx rfl (hb hby at_59) rfl rfl k) ?_
      refine own_by (V := T331.setTop (mkF m 62 #[.val (.int p0), .val (.int p1), .val (.int p2), .val (.int p3), .val (.int (3 : Int32)), .val (.int (0 : Int32)), .val (.ref b324), .unset, .unset, .unset] [(.int (2 : Int32)), (.ref b324)])) (fun t k => XS.iconst X331.here hx rfl (hb hby at_61) k) ?_
      refine own_by (V := T331.setTop (mkF m 63 #[.val (.int p0), .val (.int p1), .val (.int p2), .val (.int p3), .val (.int (3 : Int32)), .val (.int (0 : Int32)), .val (.ref b324), .unset, .unset, .unset] [(.int p2), (.int (2 : Int32)), (.ref b324)])) (fun t k => XS.iloadN X331.here hx rfl (hb hby at_62) rfl  k) ?_
      obtain ⟨cl334, Ar334, qa334, Sa334, Ma334, Ha334, Ua334⟩ := id V331
      obtain ⟨T335, h335, X335, e335, W335, st335⟩ := stI X331 hx hZ e331 Ar334 (j := (2 : Int32)) (inb_of Sa334 ⟨(by decide), (by decide)⟩) (g := (mkF m 63 #[.val (.int p0), .val (.int p1), .val (.int p2), .val (.int p3), .val (.int (3 : Int32)), .val (.int (0 : Int32)), .val (.ref b324), .unset, .unset, .unset] [(.int p2), (.int (2 : Int32)), (.ref b324)])) rfl rfl (hb hby at_63)
      have N335 := Fr.snoc X335 N331 gn324
      have Zs335 : n0 ≤ h335.size := by rw [W335.size]; exact Zs331
      have f336 := f332.wr W335
      have V335 : Arv Z h335 b324 k324 .int (3 : Int32) [(.int p0), (.int p1), (.int p2)] (.int (0 : Int32)) := Arv.set Ar334 qa334 Sa334 Ma334 Ha334 Ua334 rfl W335 2 (by decide) (by simp)
      refine own_by (V := T335.setTop (mkF m 64 #[.val (.int p0), .val (.int p1), .val (.int p2), .val (.int p3), .val (.int (3 : Int32)), .val (.int (0 : Int32)), .val (.ref b324), .unset, .unset, .unset] [])) st335 ?_
      obtain ⟨T337, h337, X337, e337, E337, A337, D337, -, st337⟩ := newO X335 hx hZ hown (hw _ (List.mem_of_getElem? (i := 1) rfl)) (hw _ (List.mem_of_getElem? (i := 2) rfl)) (hw _ (List.mem_of_getElem? (i := 3) rfl)) e335 (g := (mkF m 64 #[.val (.int p0), .val (.int p1), .val (.int p2), .val (.int p3), .val (.int (3 : Int32)), .val (.int (0 : Int32)), .val (.ref b324), .unset, .unset, .unset] [])) rfl (hb hby at_64) (by decide) (by decide)
      obtain ⟨b337, g337⟩ : ∃ z, z = h335.size := ⟨_, rfl⟩
      rw [← g337] at A337 D337 st337
      have ne338 : b324 ≠ b337 := Nat.ne_of_lt (Nat.lt_of_lt_of_le f336.lt (Nat.le_of_eq g337.symm))
      have f339 := f336.ext E337
      have f340 := V335.ext E337
      have f343 : Fld Z h337 b337 "com/example/nocord/nocord/model/Snapshot" "timestamp" "Lcom/example/nocord/nocord/model/Timestamp;" .null := D337 (Or.inr (hw _ (List.mem_of_getElem? (i := 22) rfl))) (ty := (.object "com/example/nocord/nocord/model/Timestamp")) (by decide)
      have f344 : Fld Z h337 b337 "com/example/nocord/nocord/model/Snapshot" "installing" "[I" .null := D337 (Or.inr (hw _ (List.mem_of_getElem? (i := 33) rfl))) (ty := (.array .int)) (by decide)
      have gn337 : n0 ≤ b337 := Nat.le_trans Zs335 (Nat.le_of_eq g337.symm)
      have Zs337 : n0 ≤ h337.size := Nat.le_trans Zs335 E337.1
      refine own_by (V := T337.setTop (mkF m 67 #[.val (.int p0), .val (.int p1), .val (.int p2), .val (.int p3), .val (.int (3 : Int32)), .val (.int (0 : Int32)), .val (.ref b324), .unset, .unset, .unset] [(.ref b337)])) st337 ?_
      refine own_by (V := T337.setTop (mkF m 68 #[.val (.int p0), .val (.int p1), .val (.int p2), .val (.int p3), .val (.int (3 : Int32)), .val (.int (0 : Int32)), .val (.ref b324), .unset, .unset, .unset] [(.ref b337), (.ref b337)])) (fun t k => XS.dup X337.here hx rfl (hb hby at_67) rfl rfl k) ?_
      obtain ⟨T345, h345, X345, e345, E345, A345, D345, -, st345⟩ := newO X337 hx hZ hown (hw _ (List.mem_of_getElem? (i := 4) rfl)) (hw _ (List.mem_of_getElem? (i := 5) rfl)) (hw _ (List.mem_of_getElem? (i := 6) rfl)) e337 (g := (mkF m 68 #[.val (.int p0), .val (.int p1), .val (.int p2), .val (.int p3), .val (.int (3 : Int32)), .val (.int (0 : Int32)), .val (.ref b324), .unset, .unset, .unset] [(.ref b337), (.ref b337)])) rfl (hb hby at_68) (by decide) (by decide)
      obtain ⟨b345, g345⟩ : ∃ z, z = h337.size := ⟨_, rfl⟩
      rw [← g345] at A345 D345 st345
      have ne346 : b324 ≠ b345 := Nat.ne_of_lt (Nat.lt_of_lt_of_le f339.lt (Nat.le_of_eq g345.symm))
      have ne347 : b337 ≠ b345 := Nat.ne_of_lt (Nat.lt_of_lt_of_le A337.lt (Nat.le_of_eq g345.symm))
      have f348 := f339.ext E345
      have f349 := f340.ext E345
      have f352 := A337.ext E345
      have f353 := f343.ext E345
      have f354 := f344.ext E345
      have f358 : Fld Z h345 b345 "com/example/nocord/nocord/model/Timestamp" "time" "J" (.long (0 : Int64)) := D345 (Or.inr (hw _ (List.mem_of_getElem? (i := 14) rfl))) (ty := .long) (by decide)
      have f359 : Fld Z h345 b345 "com/example/nocord/nocord/model/Timestamp" "client" "J" (.long (0 : Int64)) := D345 (Or.inr (hw _ (List.mem_of_getElem? (i := 16) rfl))) (ty := .long) (by decide)
      have gn345 : n0 ≤ b345 := Nat.le_trans Zs337 (Nat.le_of_eq g345.symm)
      have Zs345 : n0 ≤ h345.size := Nat.le_trans Zs337 E345.1
      refine own_by (V := T345.setTop (mkF m 71 #[.val (.int p0), .val (.int p1), .val (.int p2), .val (.int p3), .val (.int (3 : Int32)), .val (.int (0 : Int32)), .val (.ref b324), .unset, .unset, .unset] [(.ref b345), (.ref b337), (.ref b337)])) st345 ?_
      refine own_by (V := T345.setTop (mkF m 72 #[.val (.int p0), .val (.int p1), .val (.int p2), .val (.int p3), .val (.int (3 : Int32)), .val (.int (0 : Int32)), .val (.ref b324), .unset, .unset, .unset] [(.ref b345), (.ref b345), (.ref b337), (.ref b337)])) (fun t k => XS.dup X345.here hx rfl (hb hby at_71) rfl rfl k) ?_
      refine own_by (V := T345.setTop (mkF m 73 #[.val (.int p0), .val (.int p1), .val (.int p2), .val (.int p3), .val (.int (3 : Int32)), .val (.int (0 : Int32)), .val (.ref b324), .unset, .unset, .unset] [(.int p0), (.ref b345), (.ref b345), (.ref b337), (.ref b337)])) (fun t k => XS.iloadN X345.here hx rfl (hb hby at_72) rfl  k) ?_
      refine own_by (V := T345.setTop (mkF m 74 #[.val (.int p0), .val (.int p1), .val (.int p2), .val (.int p3), .val (.int (3 : Int32)), .val (.int (0 : Int32)), .val (.ref b324), .unset, .unset, .unset] [(.long (p0.toInt64)), (.ref b345), (.ref b345), (.ref b337), (.ref b337)])) (fun t k => XS.i2l X345.here hx rfl (hb hby at_73) rfl k) ?_
      refine own_by (V := T345.setTop (mkF m 75 #[.val (.int p0), .val (.int p1), .val (.int p2), .val (.int p3), .val (.int (3 : Int32)), .val (.int (0 : Int32)), .val (.ref b324), .unset, .unset, .unset] [(.int p1), (.long (p0.toInt64)), (.ref b345), (.ref b345), (.ref b337), (.ref b337)])) (fun t k => XS.iloadN X345.here hx rfl (hb hby at_74) rfl  k) ?_
      refine own_by (V := T345.setTop (mkF m 76 #[.val (.int p0), .val (.int p1), .val (.int p2), .val (.int p3), .val (.int (3 : Int32)), .val (.int (0 : Int32)), .val (.ref b324), .unset, .unset, .unset] [(.long (p1.toInt64)), (.long (p0.toInt64)), (.ref b345), (.ref b345), (.ref b337), (.ref b337)])) (fun t k => XS.i2l X345.here hx rfl (hb hby at_75) rfl k) ?_
      obtain ⟨_, _, ⟨T360, Lq360, kq360, nq360⟩, -, X360, ⟨Lc360, hQ360, lq360, yq360, zq360⟩, st360⟩ := X345.specialBack hx (y := (⟨"com/example/nocord/nocord/model/Timestamp", "<init>", "(JJ)V"⟩ : MethodName)) rfl hown (mvT hZ (hw _ (List.mem_of_getElem? (i := 7) rfl))) (mvT hZ (hw _ (List.mem_of_getElem? (i := 8) rfl))) (mvT hZ (hw _ (List.mem_of_getElem? (i := 9) rfl))) (by decide) (backOf (W := 3) (own_tinit l Z a0 hw [] b345 (p0.toInt64) (p1.toInt64) h345 n0 Zs345 gn345 A345 f358 f359) hZ (hw _ (List.mem_of_getElem? (i := 9) rfl)) (hw _ (List.mem_of_getElem? (i := 6) rfl)) (by decide) (by decide)) (g := (mkF m 76 #[.val (.int p0), .val (.int p1), .val (.int p2), .val (.int p3), .val (.int (3 : Int32)), .val (.int (0 : Int32)), .val (.ref b324), .unset, .unset, .unset] [(.long (p1.toInt64)), (.long (p0.toInt64)), (.ref b345), (.ref b345), (.ref b337), (.ref b337)])) rfl (by rw [hml]; rfl) (Steps.refl _) (a := b345) (argsL := [(.long (p0.toInt64)), (.long (p1.toInt64))]) (rest := [(.ref b345), (.ref b337), (.ref b337)]) (lenOf own_pd5 rfl) rfl (by show 2 * 0 + _ ≤ _; exact Nat.le_of_eq rfl) (hb hby at_76) (fun _ _ => ⟨rfl, e345, (by decide : 3 + 0 ≤ _), (by decide : 7 + 0 ≤ _)⟩)
      dsimp only [Pt.U, Pt.locs, Pt.cells, Pt.slots] at X360 lq360 yq360 zq360 st360 hQ360
      subst lq360 yq360 zq360
      obtain ⟨rfl, N360q, Kc360, Ec360, g360_0, g360_1⟩ := hQ360
      have N360 := Fr.app N335 N360q
      have f361 := f348.keep Kc360
      have f362 := f349.keep Kc360 (ninS ne346 nin0)
      have f363 := f352.keep Kc360
      have f364 := f353.keep Kc360 (ninS ne347 nin0)
      have f365 := f354.keep Kc360 (ninS ne347 nin0)
      have Zs360 : n0 ≤ T360.heap.size := Nat.le_trans Zs345 Kc360.1
      refine own_by (V := T360.setTop (mkF m 79 #[.val (.int p0), .val (.int p1), .val (.int p2), .val (.int p3), .val (.int (3 : Int32)), .val (.int (0 : Int32)), .val (.ref b324), .unset, .unset, .unset] [(.ref b345), (.ref b337), (.ref b337)])) (fun t k => st360.trans k) ?_
      refine own_by (V := T360.setTop (mkF m 81 #[.val (.int p0), .val (.int p1), .val (.int p2), .val (.int p3), .val (.int (3 : Int32)), .val (.int (0 : Int32)), .val (.ref b324), .unset, .unset, .unset] [(.ref b324), (.ref b345), (.ref b337), (.ref b337)])) (fun t k => XS.aload X360.here hx rfl (hb hby at_79) rfl rfl k) ?_
      obtain ⟨_, _, ⟨T366, Lq366, kq366, nq366⟩, -, X366, ⟨Lc366, hQ366, lq366, yq366, zq366⟩, st366⟩ := X360.specialBack hx (y := (⟨"com/example/nocord/nocord/model/Snapshot", "<init>", "(Lcom/example/nocord/nocord/model/Timestamp;[I)V"⟩ : MethodName)) rfl hown (mvT hZ (hw _ (List.mem_of_getElem? (i := 17) rfl))) (mvT hZ (hw _ (List.mem_of_getElem? (i := 18) rfl))) (mvT hZ (hw _ (List.mem_of_getElem? (i := 19) rfl))) (by decide) (backOf (W := 1) (own_snap_3 l Z a0 hw [] b337 b345 b324 k324 p0 p1 p2 T360.heap n0 Zs360 gn337 f363 f364 f365 f362 f361 ne338) hZ (hw _ (List.mem_of_getElem? (i := 19) rfl)) (hw _ (List.mem_of_getElem? (i := 3) rfl)) (by decide) (by decide)) (g := (mkF m 81 #[.val (.int p0), .val (.int p1), .val (.int p2), .val (.int p3), .val (.int (3 : Int32)), .val (.int (0 : Int32)), .val (.ref b324), .unset, .unset, .unset] [(.ref b324), (.ref b345), (.ref b337), (.ref b337)])) rfl (by rw [hml]; rfl) (Steps.refl _) (a := b337) (argsL := [(.ref b345), (.ref b324)]) (rest := [(.ref b337)]) (lenOf own_pd6 rfl) rfl (by show 2 * 0 + _ ≤ _; exact Nat.le_of_eq rfl) (hb hby at_81) (fun _ _ => ⟨rfl, rfl, (by decide : 3 + 1 ≤ _), (by decide : 7 + 3 ≤ _)⟩)
      dsimp only [Pt.U, Pt.locs, Pt.cells, Pt.slots] at X366 lq366 yq366 zq366 st366 hQ366
      subst lq366 yq366 zq366
      obtain ⟨b366, rfl, N366q, Kc366, hf366_b, g366_0, g366_1, g366_2, g366_3, g366_4⟩ := hQ366
      have N366 := Fr.app N360 N366q
      have ne367 : b324 ≠ b366 := Nat.ne_of_lt (Nat.lt_of_lt_of_le f361.lt hf366_b)
      have ne368 : b337 ≠ b366 := Nat.ne_of_lt (Nat.lt_of_lt_of_le f363.lt hf366_b)
      have ne369 : b345 ≠ b366 := Nat.ne_of_lt (Nat.lt_of_lt_of_le Ec360.lt hf366_b)
      have gn366_b : n0 ≤ b366 := Nat.le_trans Zs360 hf366_b
      have f370 := f361.keep Kc366
      have f371 := f362.keep Kc366 (ninS ne338 nin0)
      have f372 := f363.keep Kc366
      have f375 := Ec360.keep Kc366
      have f376 := g360_0.keep Kc366 (ninS (Ne.symm ne347) nin0)
      have f377 := g360_1.keep Kc366 (ninS (Ne.symm ne347) nin0)
      have Zs366 : n0 ≤ T366.heap.size := Nat.le_trans Zs360 Kc366.1
      refine own_by (V := T366.setTop (mkF m 84 #[.val (.int p0), .val (.int p1), .val (.int p2), .val (.int p3), .val (.int (3 : Int32)), .val (.int (0 : Int32)), .val (.ref b324), .unset, .unset, .unset] [(.ref b337)])) (fun t k => st366.trans k) ?_
      refine own_by (V := T366.setTop (mkF m 86 #[.val (.int p0), .val (.int p1), .val (.int p2), .val (.int p3), .val (.int (3 : Int32)), .val (.int (0 : Int32)), .val (.ref b324), .val (.ref b337), .unset, .unset] [])) (fun t k => XS.astore X366.here hx rfl (hb hby at_84) rfl rfl (l' := #[.val (.int p0), .val (.int p1), .val (.int p2), .val (.int p3), .val (.int (3 : Int32)), .val (.int (0 : Int32)), .val (.ref b324), .val (.ref b337), .unset, .unset]) rfl k) ?_
      refine own_by (V := T366.setTop (mkF m 88 #[.val (.int p0), .val (.int p1), .val (.int p2), .val (.int p3), .val (.int (3 : Int32)), .val (.int (0 : Int32)), .val (.ref b324), .val (.ref b337), .unset, .unset] [(.ref b337)])) (fun t k => XS.aload X366.here hx rfl (hb hby at_86) rfl rfl k) ?_
      obtain ⟨cq379, kq379, q379a, q379b, q379c⟩ := isOf hZ rfl g366_0
      obtain ⟨_, _, ⟨T378, Lq378, kq378, nq378⟩, -, X378, ⟨Lc378, hQ378, lq378, yq378, zq378⟩, st378⟩ := X366.virtualBack hx (y := (⟨"com/example/nocord/nocord/model/Snapshot", "installingHashes", "()[I"⟩ : MethodName)) (z := (⟨"com/example/nocord/nocord/model/Snapshot", "installingHashes", "()[I"⟩ : MethodName)) hown (mvT hZ (hw _ (List.mem_of_getElem? (i := 48) rfl))) (mvT hZ (hw _ (List.mem_of_getElem? (i := 49) rfl))) (notFace_of_selects (args := #[]) (mvT hZ (hw _ (List.mem_of_getElem? (i := 51) rfl)))) (mvT hZ (hw _ (List.mem_of_getElem? (i := 51) rfl))) (mvT hZ (hw _ (List.mem_of_getElem? (i := 50) rfl))) (by decide) (backOf (W := 0) (own_hash_3 l Z a0 hw [] b337 b366 k324 (own_min (own_min p0 p1) p2) (own_max (own_min p0 p1) (own_min (own_max p0 p1) p2)) (own_max (own_max p0 p1) p2) T366.heap n0 Zs366 g366_2 g366_3 g366_4) hZ (hw _ (List.mem_of_getElem? (i := 52) rfl)) (hw _ (List.mem_of_getElem? (i := 3) rfl)) (by decide) (by decide)) q379a q379c (g := (mkF m 88 #[.val (.int p0), .val (.int p1), .val (.int p2), .val (.int p3), .val (.int (3 : Int32)), .val (.int (0 : Int32)), .val (.ref b324), .val (.ref b337), .unset, .unset] [(.ref b337)])) rfl (by rw [hml]; rfl) (Steps.refl _) (argsL := []) (rest := []) (lenOf own_pd7 rfl) rfl (by show 2 * 0 + _ ≤ _; exact Nat.le_of_eq rfl) (hb hby at_88) (fun _ _ => ⟨rfl, rfl, (by decide : 4 + 1 ≤ _), (by decide : 10 + 3 ≤ _)⟩)
      dsimp only [Pt.U, Pt.locs, Pt.cells, Pt.slots] at X378 lq378 yq378 zq378 st378 hQ378
      subst lq378 yq378 zq378
      obtain ⟨r378, rfl, N378q, Kc378, hf378_r, g378_0, g378_1⟩ := hQ378
      have N378 := Fr.app N366 N378q
      have ne380 : b324 ≠ r378 := Nat.ne_of_lt (Nat.lt_of_lt_of_le f370.lt hf378_r)
      have ne381 : b337 ≠ r378 := Nat.ne_of_lt (Nat.lt_of_lt_of_le g366_0.lt hf378_r)
      have ne382 : b345 ≠ r378 := Nat.ne_of_lt (Nat.lt_of_lt_of_le f375.lt hf378_r)
      have ne383 : b366 ≠ r378 := Nat.ne_of_lt (Nat.lt_of_lt_of_le g366_3.lt hf378_r)
      have gn378_r : n0 ≤ r378 := Nat.le_trans Zs366 hf378_r
      have f384 := f370.keep Kc378
      have f385 := f371.keep Kc378 nin0
      have f386 := g366_0.keep Kc378
      have f387 := f375.keep Kc378
      have f388 := f376.keep Kc378 nin0
      have f389 := f377.keep Kc378 nin0
      have f390 := g366_1.keep Kc378 nin0
      have f391 := g366_2.keep Kc378 nin0
      have f392 := g366_3.keep Kc378 nin0
      have f393 := g366_4.keep Kc378
      have Zs378 : n0 ≤ T378.heap.size := Nat.le_trans Zs366 Kc378.1
      refine own_by (V := T378.setTop (mkF m 91 #[.val (.int p0), .val (.int p1), .val (.int p2), .val (.int p3), .val (.int (3 : Int32)), .val (.int (0 : Int32)), .val (.ref b324), .val (.ref b337), .unset, .unset] [(.ref r378)])) (fun t k => st378.trans k) ?_
      refine own_by (V := T378.setTop (mkF m 93 #[.val (.int p0), .val (.int p1), .val (.int p2), .val (.int p3), .val (.int (3 : Int32)), .val (.int (0 : Int32)), .val (.ref b324), .val (.ref b337), .val (.ref r378), .unset] [])) (fun t k => XS.astore X378.here hx rfl (hb hby at_91) rfl rfl (l' := #[.val (.int p0), .val (.int p1), .val (.int p2), .val (.int p3), .val (.int (3 : Int32)), .val (.int (0 : Int32)), .val (.ref b324), .val (.ref b337), .val (.ref r378), .unset]) rfl k) ?_
      refine own_by (V := T378.setTop (mkF m 95 #[.val (.int p0), .val (.int p1), .val (.int p2), .val (.int p3), .val (.int (3 : Int32)), .val (.int (0 : Int32)), .val (.ref b324), .val (.ref b337), .val (.ref r378), .unset] [(.int (0 : Int32))])) (fun t k => XS.iload X378.here hx rfl (hb hby at_93) rfl  k) ?_
      have hb95_394 : ((0 : Int32) = (0 : Int32)) := rfl
      refine own_by (V := T378.setTop (mkF m 117 #[.val (.int p0), .val (.int p1), .val (.int p2), .val (.int p3), .val (.int (3 : Int32)), .val (.int (0 : Int32)), .val (.ref b324), .val (.ref b337), .val (.ref r378), .unset] [])) (fun t k => XS.ifYes X378.here hx rfl (pc0 := 95) (pc' := 117) rfl (hb hby at_95) rfl ((if0 _ _).trans (teq hb95_394).1) (by decide) (by decide) k) ?_
      refine own_by (V := T378.setTop (mkF m 119 #[.val (.int p0), .val (.int p1), .val (.int p2), .val (.int p3), .val (.int (3 : Int32)), .val (.int (0 : Int32)), .val (.ref b324), .val (.ref b337), .val (.ref r378), .unset] [(.ref r378)])) (fun t k => XS.aload X378.here hx rfl (hb hby at_117) rfl rfl k) ?_
      refine own_by (V := T378.setTop (mkF m 121 #[.val (.int p0), .val (.int p1), .val (.int p2), .val (.int p3), .val (.int (3 : Int32)), .val (.int (0 : Int32)), .val (.ref b324), .val (.ref b337), .val (.ref r378), .unset] [(.int (3 : Int32)), (.ref r378)])) (fun t k => XS.iload X378.here hx rfl (hb hby at_119) rfl  k) ?_
      refine own_by (V := T378.setTop (mkF m 122 #[.val (.int p0), .val (.int p1), .val (.int p2), .val (.int p3), .val (.int (3 : Int32)), .val (.int (0 : Int32)), .val (.ref b324), .val (.ref b337), .val (.ref r378), .unset] [(.int p0), (.int (3 : Int32)), (.ref r378)])) (fun t k => XS.iloadN X378.here hx rfl (hb hby at_121) rfl  k) ?_
      refine own_by (V := T378.setTop (mkF m 123 #[.val (.int p0), .val (.int p1), .val (.int p2), .val (.int p3), .val (.int (3 : Int32)), .val (.int (0 : Int32)), .val (.ref b324), .val (.ref b337), .val (.ref r378), .unset] [(.int p1), (.int p0), (.int (3 : Int32)), (.ref r378)])) (fun t k => XS.iloadN X378.here hx rfl (hb hby at_122) rfl  k) ?_
      refine own_by (V := T378.setTop (mkF m 124 #[.val (.int p0), .val (.int p1), .val (.int p2), .val (.int p3), .val (.int (3 : Int32)), .val (.int (0 : Int32)), .val (.ref b324), .val (.ref b337), .val (.ref r378), .unset] [(.int p2), (.int p1), (.int p0), (.int (3 : Int32)), (.ref r378)])) (fun t k => XS.iloadN X378.here hx rfl (hb hby at_123) rfl  k) ?_
      obtain ⟨_, _, ⟨T395, Lq395, kq395, nq395⟩, -, X395, ⟨Lc395, hQ395, lq395, yq395, zq395⟩, st395⟩ := Jvm.LawKit.callS X378 hx (y := (⟨"com/example/nocord/nocord/model/SnapshotInstallingHashesPinLaw", "matches", "([IIIII)Z"⟩ : MethodName)) hown (mvT hZ (hw _ (List.mem_of_getElem? (i := 53) rfl))) (mvT hZ (hw _ (List.mem_of_getElem? (i := 54) rfl))) (mvT hZ (hw _ (List.mem_of_getElem? (i := 55) rfl))) (mvT hZ (hw _ (List.mem_of_getElem? (i := 56) rfl))) (by decide) (backOf (W := 0) (own_match_3 l Z a0 hw [] r378 p0 p1 p2 k324 T378.heap n0 g378_0) hZ (hw _ (List.mem_of_getElem? (i := 56) rfl)) (hw _ (List.mem_of_getElem? (i := 55) rfl)) (by decide) (by decide)) (g := (mkF m 124 #[.val (.int p0), .val (.int p1), .val (.int p2), .val (.int p3), .val (.int (3 : Int32)), .val (.int (0 : Int32)), .val (.ref b324), .val (.ref b337), .val (.ref r378), .unset] [(.int p2), (.int p1), (.int p0), (.int (3 : Int32)), (.ref r378)])) rfl (by rw [hml]; rfl) (argsL := [(.ref r378), (.int (3 : Int32)), (.int p0), (.int p1), (.int p2)]) (rest := []) (lenOf own_pd8 rfl) rfl (by show 2 * 0 + _ ≤ _; exact Nat.le_of_eq rfl) (hb hby at_124) (fun _ _ => ⟨rfl, rfl, (by decide : 5 + 0 ≤ _), (by decide : 13 + 0 ≤ _)⟩)
      dsimp only [Pt.U, Pt.locs, Pt.cells, Pt.slots] at X395 lq395 yq395 zq395 st395 hQ395
      subst lq395 yq395 zq395
      obtain ⟨rfl, N395q, e395⟩ := hQ395
      have N395 := Fr.app N378 N395q
      refine own_by (V := T395.setTop (mkF m 127 #[.val (.int p0), .val (.int p1), .val (.int p2), .val (.int p3), .val (.int (3 : Int32)), .val (.int (0 : Int32)), .val (.ref b324), .val (.ref b337), .val (.ref r378), .unset] [(.int (1 : Int32))])) st395 ?_
      have hb127_396 : ¬ ((1 : Int32) = (0 : Int32)) := by decide
      refine own_by (V := T395.setTop (mkF m 132 #[.val (.int p0), .val (.int p1), .val (.int p2), .val (.int p3), .val (.int (3 : Int32)), .val (.int (0 : Int32)), .val (.ref b324), .val (.ref b337), .val (.ref r378), .unset] [])) (fun t k => XS.ifYes X395.here hx rfl (pc0 := 127) (pc' := 132) rfl (hb hby at_127) rfl ((if0 _ _).trans (feq hb127_396).2) (by decide) (by decide) k) ?_
      refine own_by (V := T395.setTop (mkF m 134 #[.val (.int p0), .val (.int p1), .val (.int p2), .val (.int p3), .val (.int (3 : Int32)), .val (.int (0 : Int32)), .val (.ref b324), .val (.ref b337), .val (.ref r378), .unset] [(.int (3 : Int32))])) (fun t k => XS.iload X395.here hx rfl (hb hby at_132) rfl  k) ?_
      have hb134_397 : ((0 : Int32) < (3 : Int32)) := by decide
      refine own_by (V := T395.setTop (mkF m 137 #[.val (.int p0), .val (.int p1), .val (.int p2), .val (.int p3), .val (.int (3 : Int32)), .val (.int (0 : Int32)), .val (.ref b324), .val (.ref b337), .val (.ref r378), .unset] [])) (fun t k => XS.ifNo X395.here hx rfl (hb hby at_134) rfl ((if0 _ _).trans (tlt hb134_397).2.2.2) k) ?_
      refine own_by (V := T395.setTop (mkF m 139 #[.val (.int p0), .val (.int p1), .val (.int p2), .val (.int p3), .val (.int (3 : Int32)), .val (.int (0 : Int32)), .val (.ref b324), .val (.ref b337), .val (.ref r378), .unset] [(.ref r378)])) (fun t k => XS.aload X395.here hx rfl (hb hby at_137) rfl rfl k) ?_
      refine own_by (V := T395.setTop (mkF m 140 #[.val (.int p0), .val (.int p1), .val (.int p2), .val (.int p3), .val (.int (3 : Int32)), .val (.int (0 : Int32)), .val (.ref b324), .val (.ref b337), .val (.ref r378), .unset] [(.int (0 : Int32)), (.ref r378)])) (fun t k => XS.iconst X395.here hx rfl (hb hby at_139) k) ?_
      refine own_by (V := T395.setTop (mkF m 142 #[.val (.int p0), .val (.int p1), .val (.int p2), .val (.int p3), .val (.int (3 : Int32)), .val (.int (0 : Int32)), .val (.ref b324), .val (.ref b337), .val (.ref r378), .unset] [(.ref r378), (.int (0 : Int32)), (.ref r378)])) (fun t k => XS.aload X395.here hx rfl (hb hby at_140) rfl rfl k) ?_
      refine own_by (V := T395.setTop (mkF m 143 #[.val (.int p0), .val (.int p1), .val (.int p2), .val (.int p3), .val (.int (3 : Int32)), .val (.int (0 : Int32)), .val (.ref b324), .val (.ref b337), .val (.ref r378), .unset] [(.int (0 : Int32)), (.ref r378), (.int (0 : Int32)), (.ref r378)])) (fun t k => XS.iconst X395.here hx rfl (hb hby at_142) k) ?_
      obtain ⟨cl398, Ar398, qa398, Sa398, Ma398, Ha398, Ua398⟩ := id g378_0
      have hi398 := inb_of Sa398 (j := (0 : Int32)) ⟨(by decide), (by decide)⟩
      refine own_by (V := T395.setTop (mkF m 144 #[.val (.int p0), .val (.int p1), .val (.int p2), .val (.int p3), .val (.int (3 : Int32)), .val (.int (0 : Int32)), .val (.ref b324), .val (.ref b337), .val (.ref r378), .unset] [(.int (own_min (own_min p0 p1) p2)), (.int (0 : Int32)), (.ref r378)])) (X395.iaload hx (j := (0 : Int32)) (v := (.int (own_min (own_min p0 p1) p2))) (by rw [e395]; exact Ar398.1) (State.isArrayOf_alike hZ.alike Ar398.2.1) Ar398.2.2 hi398 (Has.at Ha398 hi398 rfl) (g := (mkF m 143 #[.val (.int p0), .val (.int p1), .val (.int p2), .val (.int p3), .val (.int (3 : Int32)), .val (.int (0 : Int32)), .val (.ref b324), .val (.ref b337), .val (.ref r378), .unset] [(.int (0 : Int32)), (.ref r378), (.int (0 : Int32)), (.ref r378)])) rfl rfl (hb hby at_143)) ?_
      refine own_by (V := T395.setTop (mkF m 145 #[.val (.int p0), .val (.int p1), .val (.int p2), .val (.int p3), .val (.int (3 : Int32)), .val (.int (0 : Int32)), .val (.ref b324), .val (.ref b337), .val (.ref r378), .unset] [(.int (1 : Int32)), (.int (own_min (own_min p0 p1) p2)), (.int (0 : Int32)), (.ref r378)])) (fun t k => XS.iconst X395.here hx rfl (hb hby at_144) k) ?_
      refine own_by (V := T395.setTop (mkF m 146 #[.val (.int p0), .val (.int p1), .val (.int p2), .val (.int p3), .val (.int (3 : Int32)), .val (.int (0 : Int32)), .val (.ref b324), .val (.ref b337), .val (.ref r378), .unset] [(.int ((own_min (own_min p0 p1) p2) ^^^ (1 : Int32))), (.int (0 : Int32)), (.ref r378)])) (fun t k => XS.ixor X395.here hx rfl (hb hby at_145) rfl k) ?_
      obtain ⟨cl399, Ar399, qa399, Sa399, Ma399, Ha399, Ua399⟩ := id g378_0
      obtain ⟨T400, h400, X400, e400, W400, st400⟩ := stI X395 hx hZ e395 Ar399 (j := (0 : Int32)) (inb_of Sa399 ⟨(by decide), (by decide)⟩) (g := (mkF m 146 #[.val (.int p0), .val (.int p1), .val (.int p2), .val (.int p3), .val (.int (3 : Int32)), .val (.int (0 : Int32)), .val (.ref b324), .val (.ref b337), .val (.ref r378), .unset] [(.int ((own_min (own_min p0 p1) p2) ^^^ (1 : Int32))), (.int (0 : Int32)), (.ref r378)])) rfl rfl (hb hby at_146)
      have N400 := Fr.snoc X400 N395 gn378_r
      have Zs400 : n0 ≤ h400.size := by rw [W400.size]; exact Zs378
      have f401 := f384.wr W400
      have f402 := f385.other W400 ne380
      have f403 := f386.wr W400
      have f404 := f387.wr W400
      have f405 := f388.other W400 (Or.inl ne382)
      have f406 := f389.other W400 (Or.inl ne382)
      have f407 := f390.other W400 (Or.inl ne381)
      have f408 := f391.other W400 (Or.inl ne381)
      have f409 := f392.other W400 ne383
      have f410 := f393.wr W400
      have f411 := g378_1.wr W400
      have V400 : Arv Z h400 r378 k324 .int (3 : Int32) [(.int ((own_min (own_min p0 p1) p2) ^^^ (1 : Int32))), (.int (own_max (own_min p0 p1) (own_min (own_max p0 p1) p2))), (.int (own_max (own_max p0 p1) p2))] (.int (0 : Int32)) := Arv.set Ar399 qa399 Sa399 Ma399 Ha399 Ua399 rfl W400 0 (by decide) (by simp)
      refine own_by (V := T400.setTop (mkF m 147 #[.val (.int p0), .val (.int p1), .val (.int p2), .val (.int p3), .val (.int (3 : Int32)), .val (.int (0 : Int32)), .val (.ref b324), .val (.ref b337), .val (.ref r378), .unset] [])) st400 ?_
      refine own_by (V := T400.setTop (mkF m 149 #[.val (.int p0), .val (.int p1), .val (.int p2), .val (.int p3), .val (.int (3 : Int32)), .val (.int (0 : Int32)), .val (.ref b324), .val (.ref b337), .val (.ref r378), .unset] [(.ref b324)])) (fun t k => XS.aload X400.here hx rfl (hb hby at_147) rfl rfl k) ?_
      refine own_by (V := T400.setTop (mkF m 150 #[.val (.int p0), .val (.int p1), .val (.int p2), .val (.int p3), .val (.int (3 : Int32)), .val (.int (0 : Int32)), .val (.ref b324), .val (.ref b337), .val (.ref r378), .unset] [(.int (0 : Int32)), (.ref b324)])) (fun t k => XS.iconst X400.here hx rfl (hb hby at_149) k) ?_
      refine own_by (V := T400.setTop (mkF m 152 #[.val (.int p0), .val (.int p1), .val (.int p2), .val (.int p3), .val (.int (3 : Int32)), .val (.int (0 : Int32)), .val (.ref b324), .val (.ref b337), .val (.ref r378), .unset] [(.ref b324), (.int (0 : Int32)), (.ref b324)])) (fun t k => XS.aload X400.here hx rfl (hb hby at_150) rfl rfl k) ?_
      refine own_by (V := T400.setTop (mkF m 153 #[.val (.int p0), .val (.int p1), .val (.int p2), .val (.int p3), .val (.int (3 : Int32)), .val (.int (0 : Int32)), .val (.ref b324), .val (.ref b337), .val (.ref r378), .unset] [(.int (0 : Int32)), (.ref b324), (.int (0 : Int32)), (.ref b324)])) (fun t k => XS.iconst X400.here hx rfl (hb hby at_152) k) ?_
      obtain ⟨cl412, Ar412, qa412, Sa412, Ma412, Ha412, Ua412⟩ := id f402
      have hi412 := inb_of Sa412 (j := (0 : Int32)) ⟨(by decide), (by decide)⟩
      refine own_by (V := T400.setTop (mkF m 154 #[.val (.int p0), .val (.int p1), .val (.int p2), .val (.int p3), .val (.int (3 : Int32)), .val (.int (0 : Int32)), .val (.ref b324), .val (.ref b337), .val (.ref r378), .unset] [(.int p0), (.int (0 : Int32)), (.ref b324)])) (X400.iaload hx (j := (0 : Int32)) (v := (.int p0)) (by rw [e400]; exact Ar412.1) (State.isArrayOf_alike hZ.alike Ar412.2.1) Ar412.2.2 hi412 (Has.at Ha412 hi412 rfl) (g := (mkF m 153 #[.val (.int p0), .val (.int p1), .val (.int p2), .val (.int p3), .val (.int (3 : Int32)), .val (.int (0 : Int32)), .val (.ref b324), .val (.ref b337), .val (.ref r378), .unset] [(.int (0 : Int32)), (.ref b324), (.int (0 : Int32)), (.ref b324)])) rfl rfl (hb hby at_153)) ?_
      refine own_by (V := T400.setTop (mkF m 155 #[.val (.int p0), .val (.int p1), .val (.int p2), .val (.int p3), .val (.int (3 : Int32)), .val (.int (0 : Int32)), .val (.ref b324), .val (.ref b337), .val (.ref r378), .unset] [(.int (1 : Int32)), (.int p0), (.int (0 : Int32)), (.ref b324)])) (fun t k => XS.iconst X400.here hx rfl (hb hby at_154) k) ?_
      refine own_by (V := T400.setTop (mkF m 156 #[.val (.int p0), .val (.int p1), .val (.int p2), .val (.int p3), .val (.int (3 : Int32)), .val (.int (0 : Int32)), .val (.ref b324), .val (.ref b337), .val (.ref r378), .unset] [(.int (p0 ^^^ (1 : Int32))), (.int (0 : Int32)), (.ref b324)])) (fun t k => XS.ixor X400.here hx rfl (hb hby at_155) rfl k) ?_
      obtain ⟨cl413, Ar413, qa413, Sa413, Ma413, Ha413, Ua413⟩ := id f402
      obtain ⟨T414, h414, X414, e414, W414, st414⟩ := stI X400 hx hZ e400 Ar413 (j := (0 : Int32)) (inb_of Sa413 ⟨(by decide), (by decide)⟩) (g := (mkF m 156 #[.val (.int p0), .val (.int p1), .val (.int p2), .val (.int p3), .val (.int (3 : Int32)), .val (.int (0 : Int32)), .val (.ref b324), .val (.ref b337), .val (.ref r378), .unset] [(.int (p0 ^^^ (1 : Int32))), (.int (0 : Int32)), (.ref b324)])) rfl rfl (hb hby at_156)
      have N414 := Fr.snoc X414 N400 gn324
      have Zs414 : n0 ≤ h414.size := by rw [W414.size]; exact Zs400
      have f415 := f401.wr W414
      have f416 := f403.wr W414
      have f417 := f404.wr W414
      have f418 := f405.other W414 (Or.inl (Ne.symm ne346))
      have f419 := f406.other W414 (Or.inl (Ne.symm ne346))
      have f420 := f407.other W414 (Or.inl (Ne.symm ne338))
      have f421 := f408.other W414 (Or.inl (Ne.symm ne338))
      have f422 := f409.other W414 (Ne.symm ne367)
      have f423 := f410.wr W414
      have f424 := V400.other W414 (Ne.symm ne380)
      have f425 := f411.wr W414
      have V414 : Arv Z h414 b324 k324 .int (3 : Int32) [(.int (p0 ^^^ (1 : Int32))), (.int p1), (.int p2)] (.int (0 : Int32)) := Arv.set Ar413 qa413 Sa413 Ma413 Ha413 Ua413 rfl W414 0 (by decide) (by simp)
      refine own_by (V := T414.setTop (mkF m 157 #[.val (.int p0), .val (.int p1), .val (.int p2), .val (.int p3), .val (.int (3 : Int32)), .val (.int (0 : Int32)), .val (.ref b324), .val (.ref b337), .val (.ref r378), .unset] [])) st414 ?_
      refine own_by (V := T414.setTop (mkF m 159 #[.val (.int p0), .val (.int p1), .val (.int p2), .val (.int p3), .val (.int (3 : Int32)), .val (.int (0 : Int32)), .val (.ref b324), .val (.ref b337), .val (.ref r378), .unset] [(.ref b337)])) (fun t k => XS.aload X414.here hx rfl (hb hby at_157) rfl rfl k) ?_
      obtain ⟨cq427, kq427, q427a, q427b, q427c⟩ := isOf hZ e414 f416
      obtain ⟨_, _, ⟨T426, Lq426, kq426, nq426⟩, -, X426, ⟨Lc426, hQ426, lq426, yq426, zq426⟩, st426⟩ := X414.virtualBack hx (y := (⟨"com/example/nocord/nocord/model/Snapshot", "installingHashes", "()[I"⟩ : MethodName)) (z := (⟨"com/example/nocord/nocord/model/Snapshot", "installingHashes", "()[I"⟩ : MethodName)) hown (mvT hZ (hw _ (List.mem_of_getElem? (i := 48) rfl))) (mvT hZ (hw _ (List.mem_of_getElem? (i := 49) rfl))) (notFace_of_selects (args := #[]) (mvT hZ (hw _ (List.mem_of_getElem? (i := 51) rfl)))) (mvT hZ (hw _ (List.mem_of_getElem? (i := 51) rfl))) (mvT hZ (hw _ (List.mem_of_getElem? (i := 50) rfl))) (by decide) (backOf (W := 0) (own_hash_3 l Z a0 hw [] b337 b366 k324 (own_min (own_min p0 p1) p2) (own_max (own_min p0 p1) (own_min (own_max p0 p1) p2)) (own_max (own_max p0 p1) p2) h414 n0 Zs414 f421 f422 f423) hZ (hw _ (List.mem_of_getElem? (i := 52) rfl)) (hw _ (List.mem_of_getElem? (i := 3) rfl)) (by decide) (by decide)) q427a q427c (g := (mkF m 159 #[.val (.int p0), .val (.int p1), .val (.int p2), .val (.int p3), .val (.int (3 : Int32)), .val (.int (0 : Int32)), .val (.ref b324), .val (.ref b337), .val (.ref r378), .unset] [(.ref b337)])) rfl (by rw [hml]; rfl) (Steps.refl _) (argsL := []) (rest := []) (lenOf own_pd7 rfl) rfl (by show 2 * 0 + _ ≤ _; exact Nat.le_of_eq rfl) (hb hby at_159) (fun _ _ => ⟨rfl, e414, (by decide : 5 + 1 ≤ _), (by decide : 13 + 3 ≤ _)⟩)
      dsimp only [Pt.U, Pt.locs, Pt.cells, Pt.slots] at X426 lq426 yq426 zq426 st426 hQ426
      subst lq426 yq426 zq426
      obtain ⟨r426, rfl, N426q, Kc426, hf426_r, g426_0, g426_1⟩ := hQ426
      have N426 := Fr.app N414 N426q
      have ne428 : b324 ≠ r426 := Nat.ne_of_lt (Nat.lt_of_lt_of_le f415.lt hf426_r)
      have ne429 : b337 ≠ r426 := Nat.ne_of_lt (Nat.lt_of_lt_of_le f416.lt hf426_r)
      have ne430 : b345 ≠ r426 := Nat.ne_of_lt (Nat.lt_of_lt_of_le f417.lt hf426_r)
      have ne431 : b366 ≠ r426 := Nat.ne_of_lt (Nat.lt_of_lt_of_le f422.lt hf426_r)
      have ne432 : r378 ≠ r426 := Nat.ne_of_lt (Nat.lt_of_lt_of_le f424.lt hf426_r)
      have gn426_r : n0 ≤ r426 := Nat.le_trans Zs414 hf426_r
      have f433 := f415.keep Kc426
      have f434 := V414.keep Kc426 nin0
      have f435 := f416.keep Kc426
      have f436 := f417.keep Kc426
      have f437 := f418.keep Kc426 nin0
      have f438 := f419.keep Kc426 nin0
      have f439 := f420.keep Kc426 nin0
      have f440 := f421.keep Kc426 nin0
      have f441 := f422.keep Kc426 nin0
      have f442 := f423.keep Kc426
      have f443 := f424.keep Kc426 nin0
      have f444 := f425.keep Kc426
      have Zs426 : n0 ≤ T426.heap.size := Nat.le_trans Zs414 Kc426.1
      refine own_by (V := T426.setTop (mkF m 162 #[.val (.int p0), .val (.int p1), .val (.int p2), .val (.int p3), .val (.int (3 : Int32)), .val (.int (0 : Int32)), .val (.ref b324), .val (.ref b337), .val (.ref r378), .unset] [(.ref r426)])) (fun t k => st426.trans k) ?_
      refine own_by (V := T426.setTop (mkF m 164 #[.val (.int p0), .val (.int p1), .val (.int p2), .val (.int p3), .val (.int (3 : Int32)), .val (.int (0 : Int32)), .val (.ref b324), .val (.ref b337), .val (.ref r378), .val (.ref r426)] [])) (fun t k => XS.astore X426.here hx rfl (hb hby at_162) rfl rfl (l' := #[.val (.int p0), .val (.int p1), .val (.int p2), .val (.int p3), .val (.int (3 : Int32)), .val (.int (0 : Int32)), .val (.ref b324), .val (.ref b337), .val (.ref r378), .val (.ref r426)]) rfl k) ?_
      refine own_by (V := T426.setTop (mkF m 166 #[.val (.int p0), .val (.int p1), .val (.int p2), .val (.int p3), .val (.int (3 : Int32)), .val (.int (0 : Int32)), .val (.ref b324), .val (.ref b337), .val (.ref r378), .val (.ref r426)] [(.ref r426)])) (fun t k => XS.aload X426.here hx rfl (hb hby at_164) rfl rfl k) ?_
      refine own_by (V := T426.setTop (mkF m 168 #[.val (.int p0), .val (.int p1), .val (.int p2), .val (.int p3), .val (.int (3 : Int32)), .val (.int (0 : Int32)), .val (.ref b324), .val (.ref b337), .val (.ref r378), .val (.ref r426)] [(.int (3 : Int32)), (.ref r426)])) (fun t k => XS.iload X426.here hx rfl (hb hby at_166) rfl  k) ?_
      refine own_by (V := T426.setTop (mkF m 169 #[.val (.int p0), .val (.int p1), .val (.int p2), .val (.int p3), .val (.int (3 : Int32)), .val (.int (0 : Int32)), .val (.ref b324), .val (.ref b337), .val (.ref r378), .val (.ref r426)] [(.int p0), (.int (3 : Int32)), (.ref r426)])) (fun t k => XS.iloadN X426.here hx rfl (hb hby at_168) rfl  k) ?_
      refine own_by (V := T426.setTop (mkF m 170 #[.val (.int p0), .val (.int p1), .val (.int p2), .val (.int p3), .val (.int (3 : Int32)), .val (.int (0 : Int32)), .val (.ref b324), .val (.ref b337), .val (.ref r378), .val (.ref r426)] [(.int p1), (.int p0), (.int (3 : Int32)), (.ref r426)])) (fun t k => XS.iloadN X426.here hx rfl (hb hby at_169) rfl  k) ?_
      refine own_by (V := T426.setTop (mkF m 171 #[.val (.int p0), .val (.int p1), .val (.int p2), .val (.int p3), .val (.int (3 : Int32)), .val (.int (0 : Int32)), .val (.ref b324), .val (.ref b337), .val (.ref r378), .val (.ref r426)] [(.int p2), (.int p1), (.int p0), (.int (3 : Int32)), (.ref r426)])) (fun t k => XS.iloadN X426.here hx rfl (hb hby at_170) rfl  k) ?_
      obtain ⟨_, _, ⟨T445, Lq445, kq445, nq445⟩, -, X445, ⟨Lc445, hQ445, lq445, yq445, zq445⟩, st445⟩ := Jvm.LawKit.callS X426 hx (y := (⟨"com/example/nocord/nocord/model/SnapshotInstallingHashesPinLaw", "matches", "([IIIII)Z"⟩ : MethodName)) hown (mvT hZ (hw _ (List.mem_of_getElem? (i := 53) rfl))) (mvT hZ (hw _ (List.mem_of_getElem? (i := 54) rfl))) (mvT hZ (hw _ (List.mem_of_getElem? (i := 55) rfl))) (mvT hZ (hw _ (List.mem_of_getElem? (i := 56) rfl))) (by decide) (backOf (W := 0) (own_match_3 l Z a0 hw [] r426 p0 p1 p2 k324 T426.heap n0 g426_0) hZ (hw _ (List.mem_of_getElem? (i := 56) rfl)) (hw _ (List.mem_of_getElem? (i := 55) rfl)) (by decide) (by decide)) (g := (mkF m 171 #[.val (.int p0), .val (.int p1), .val (.int p2), .val (.int p3), .val (.int (3 : Int32)), .val (.int (0 : Int32)), .val (.ref b324), .val (.ref b337), .val (.ref r378), .val (.ref r426)] [(.int p2), (.int p1), (.int p0), (.int (3 : Int32)), (.ref r426)])) rfl (by rw [hml]; rfl) (argsL := [(.ref r426), (.int (3 : Int32)), (.int p0), (.int p1), (.int p2)]) (rest := []) (lenOf own_pd8 rfl) rfl (by show 2 * 0 + _ ≤ _; exact Nat.le_of_eq rfl) (hb hby at_171) (fun _ _ => ⟨rfl, rfl, (by decide : 6 + 0 ≤ _), (by decide : 16 + 0 ≤ _)⟩)
      dsimp only [Pt.U, Pt.locs, Pt.cells, Pt.slots] at X445 lq445 yq445 zq445 st445 hQ445
      subst lq445 yq445 zq445
      obtain ⟨rfl, N445q, e445⟩ := hQ445
      have N445 := Fr.app N426 N445q
      refine own_by (V := T445.setTop (mkF m 174 #[.val (.int p0), .val (.int p1), .val (.int p2), .val (.int p3), .val (.int (3 : Int32)), .val (.int (0 : Int32)), .val (.ref b324), .val (.ref b337), .val (.ref r378), .val (.ref r426)] [(.int (1 : Int32))])) st445 ?_
      refine own_retN X445 hx hlk e445 Bd.returns (t := .boolean) (by simp) rfl (hb hby at_174) ?_ (by decide) (by decide)
      exact ⟨rfl, N445⟩
  · refine own_by (V := s₁.setTop (mkF m 11 #[.val (.int p0), .val (.int p1), .val (.int p2), .val (.int p3), .val (.int z1), .unset, .unset, .unset, .unset, .unset] [])) (fun t k => XS.ifNo X0.here hx rfl (hb hby at_8) rfl ((if0 _ _).trans (feq hb8_2).1) k) ?_
    refine own_by (V := s₁.setTop (mkF m 12 #[.val (.int p0), .val (.int p1), .val (.int p2), .val (.int p3), .val (.int z1), .unset, .unset, .unset, .unset, .unset] [(.int (1 : Int32))])) (fun t k => XS.iconst X0.here hx rfl (hb hby at_11) k) ?_
    refine own_by (V := s₁.setTop (mkF m 16 #[.val (.int p0), .val (.int p1), .val (.int p2), .val (.int p3), .val (.int z1), .unset, .unset, .unset, .unset, .unset] [(.int (1 : Int32))])) (fun t k => XS.goto X0.here hx rfl (pc0 := 12) (pc' := 16) rfl (hb hby at_12) (by decide) (by decide) k) ?_
    refine own_by (V := s₁.setTop (mkF m 18 #[.val (.int p0), .val (.int p1), .val (.int p2), .val (.int p3), .val (.int z1), .val (.int (1 : Int32)), .unset, .unset, .unset, .unset] [])) (fun t k => XS.istore X0.here hx rfl (hb hby at_16) rfl (l' := #[.val (.int p0), .val (.int p1), .val (.int p2), .val (.int p3), .val (.int z1), .val (.int (1 : Int32)), .unset, .unset, .unset, .unset]) rfl k) ?_
    refine own_by (V := s₁.setTop (mkF m 19 #[.val (.int p0), .val (.int p1), .val (.int p2), .val (.int p3), .val (.int z1), .val (.int (1 : Int32)), .unset, .unset, .unset, .unset] [.null])) (fun t k => XS.aconstNull X0.here hx rfl (hb hby at_18) k) ?_
    refine own_by (V := s₁.setTop (mkF m 21 #[.val (.int p0), .val (.int p1), .val (.int p2), .val (.int p3), .val (.int z1), .val (.int (1 : Int32)), .val .null, .unset, .unset, .unset] [])) (fun t k => XS.astore X0.here hx rfl (hb hby at_19) rfl rfl (l' := #[.val (.int p0), .val (.int p1), .val (.int p2), .val (.int p3), .val (.int z1), .val (.int (1 : Int32)), .val .null, .unset, .unset, .unset]) rfl k) ?_
    refine own_by (V := s₁.setTop (mkF m 23 #[.val (.int p0), .val (.int p1), .val (.int p2), .val (.int p3), .val (.int z1), .val (.int (1 : Int32)), .val .null, .unset, .unset, .unset] [(.int (1 : Int32))])) (fun t k => XS.iload X0.here hx rfl (hb hby at_21) rfl  k) ?_
    have hb23_446 : ¬ ((1 : Int32) = (0 : Int32)) := by decide
    refine own_by (V := s₁.setTop (mkF m 64 #[.val (.int p0), .val (.int p1), .val (.int p2), .val (.int p3), .val (.int z1), .val (.int (1 : Int32)), .val .null, .unset, .unset, .unset] [])) (fun t k => XS.ifYes X0.here hx rfl (pc0 := 23) (pc' := 64) rfl (hb hby at_23) rfl ((if0 _ _).trans (feq hb23_446).2) (by decide) (by decide) k) ?_
    obtain ⟨T447, h447, X447, e447, E447, A447, D447, -, st447⟩ := newO X0 hx hZ hown (hw _ (List.mem_of_getElem? (i := 1) rfl)) (hw _ (List.mem_of_getElem? (i := 2) rfl)) (hw _ (List.mem_of_getElem? (i := 3) rfl)) e0 (g := (mkF m 64 #[.val (.int p0), .val (.int p1), .val (.int p2), .val (.int p3), .val (.int z1), .val (.int (1 : Int32)), .val .null, .unset, .unset, .unset] [])) rfl (hb hby at_64) (by decide) (by decide)
    obtain ⟨b447, g447⟩ : ∃ z, z = h0.size := ⟨_, rfl⟩
    rw [← g447] at A447 D447 st447
    have f448 : Fld Z h447 b447 "com/example/nocord/nocord/model/Snapshot" "timestamp" "Lcom/example/nocord/nocord/model/Timestamp;" .null := D447 (Or.inr (hw _ (List.mem_of_getElem? (i := 22) rfl))) (ty := (.object "com/example/nocord/nocord/model/Timestamp")) (by decide)
    have f449 : Fld Z h447 b447 "com/example/nocord/nocord/model/Snapshot" "installing" "[I" .null := D447 (Or.inr (hw _ (List.mem_of_getElem? (i := 33) rfl))) (ty := (.array .int)) (by decide)
    have gn447 : n0 ≤ b447 := Nat.le_trans Z0 (Nat.le_of_eq g447.symm)
    have Zs447 : n0 ≤ h447.size := Nat.le_trans Z0 E447.1
    refine own_by (V := T447.setTop (mkF m 67 #[.val (.int p0), .val (.int p1), .val (.int p2), .val (.int p3), .val (.int z1), .val (.int (1 : Int32)), .val .null, .unset, .unset, .unset] [(.ref b447)])) st447 ?_
    refine own_by (V := T447.setTop (mkF m 68 #[.val (.int p0), .val (.int p1), .val (.int p2), .val (.int p3), .val (.int z1), .val (.int (1 : Int32)), .val .null, .unset, .unset, .unset] [(.ref b447), (.ref b447)])) (fun t k => XS.dup X447.here hx rfl (hb hby at_67) rfl rfl k) ?_
    obtain ⟨T450, h450, X450, e450, E450, A450, D450, -, st450⟩ := newO X447 hx hZ hown (hw _ (List.mem_of_getElem? (i := 4) rfl)) (hw _ (List.mem_of_getElem? (i := 5) rfl)) (hw _ (List.mem_of_getElem? (i := 6) rfl)) e447 (g := (mkF m 68 #[.val (.int p0), .val (.int p1), .val (.int p2), .val (.int p3), .val (.int z1), .val (.int (1 : Int32)), .val .null, .unset, .unset, .unset] [(.ref b447), (.ref b447)])) rfl (hb hby at_68) (by decide) (by decide)
    obtain ⟨b450, g450⟩ : ∃ z, z = h447.size := ⟨_, rfl⟩
    rw [← g450] at A450 D450 st450
    have ne451 : b447 ≠ b450 := Nat.ne_of_lt (Nat.lt_of_lt_of_le A447.lt (Nat.le_of_eq g450.symm))
    have f452 := A447.ext E450
    have f453 := f448.ext E450
    have f454 := f449.ext E450
    have f457 : Fld Z h450 b450 "com/example/nocord/nocord/model/Timestamp" "time" "J" (.long (0 : Int64)) := D450 (Or.inr (hw _ (List.mem_of_getElem? (i := 14) rfl))) (ty := .long) (by decide)
    have f458 : Fld Z h450 b450 "com/example/nocord/nocord/model/Timestamp" "client" "J" (.long (0 : Int64)) := D450 (Or.inr (hw _ (List.mem_of_getElem? (i := 16) rfl))) (ty := .long) (by decide)
    have gn450 : n0 ≤ b450 := Nat.le_trans Zs447 (Nat.le_of_eq g450.symm)
    have Zs450 : n0 ≤ h450.size := Nat.le_trans Zs447 E450.1
    refine own_by (V := T450.setTop (mkF m 71 #[.val (.int p0), .val (.int p1), .val (.int p2), .val (.int p3), .val (.int z1), .val (.int (1 : Int32)), .val .null, .unset, .unset, .unset] [(.ref b450), (.ref b447), (.ref b447)])) st450 ?_
    refine own_by (V := T450.setTop (mkF m 72 #[.val (.int p0), .val (.int p1), .val (.int p2), .val (.int p3), .val (.int z1), .val (.int (1 : Int32)), .val .null, .unset, .unset, .unset] [(.ref b450), (.ref b450), (.ref b447), (.ref b447)])) (fun t k => XS.dup X450.here hx rfl (hb hby at_71) rfl rfl k) ?_
    refine own_by (V := T450.setTop (mkF m 73 #[.val (.int p0), .val (.int p1), .val (.int p2), .val (.int p3), .val (.int z1), .val (.int (1 : Int32)), .val .null, .unset, .unset, .unset] [(.int p0), (.ref b450), (.ref b450), (.ref b447), (.ref b447)])) (fun t k => XS.iloadN X450.here hx rfl (hb hby at_72) rfl  k) ?_
    refine own_by (V := T450.setTop (mkF m 74 #[.val (.int p0), .val (.int p1), .val (.int p2), .val (.int p3), .val (.int z1), .val (.int (1 : Int32)), .val .null, .unset, .unset, .unset] [(.long (p0.toInt64)), (.ref b450), (.ref b450), (.ref b447), (.ref b447)])) (fun t k => XS.i2l X450.here hx rfl (hb hby at_73) rfl k) ?_
    refine own_by (V := T450.setTop (mkF m 75 #[.val (.int p0), .val (.int p1), .val (.int p2), .val (.int p3), .val (.int z1), .val (.int (1 : Int32)), .val .null, .unset, .unset, .unset] [(.int p1), (.long (p0.toInt64)), (.ref b450), (.ref b450), (.ref b447), (.ref b447)])) (fun t k => XS.iloadN X450.here hx rfl (hb hby at_74) rfl  k) ?_
    refine own_by (V := T450.setTop (mkF m 76 #[.val (.int p0), .val (.int p1), .val (.int p2), .val (.int p3), .val (.int z1), .val (.int (1 : Int32)), .val .null, .unset, .unset, .unset] [(.long (p1.toInt64)), (.long (p0.toInt64)), (.ref b450), (.ref b450), (.ref b447), (.ref b447)])) (fun t k => XS.i2l X450.here hx rfl (hb hby at_75) rfl k) ?_
    obtain ⟨_, _, ⟨T459, Lq459, kq459, nq459⟩, -, X459, ⟨Lc459, hQ459, lq459, yq459, zq459⟩, st459⟩ := X450.specialBack hx (y := (⟨"com/example/nocord/nocord/model/Timestamp", "<init>", "(JJ)V"⟩ : MethodName)) rfl hown (mvT hZ (hw _ (List.mem_of_getElem? (i := 7) rfl))) (mvT hZ (hw _ (List.mem_of_getElem? (i := 8) rfl))) (mvT hZ (hw _ (List.mem_of_getElem? (i := 9) rfl))) (by decide) (backOf (W := 3) (own_tinit l Z a0 hw [] b450 (p0.toInt64) (p1.toInt64) h450 n0 Zs450 gn450 A450 f457 f458) hZ (hw _ (List.mem_of_getElem? (i := 9) rfl)) (hw _ (List.mem_of_getElem? (i := 6) rfl)) (by decide) (by decide)) (g := (mkF m 76 #[.val (.int p0), .val (.int p1), .val (.int p2), .val (.int p3), .val (.int z1), .val (.int (1 : Int32)), .val .null, .unset, .unset, .unset] [(.long (p1.toInt64)), (.long (p0.toInt64)), (.ref b450), (.ref b450), (.ref b447), (.ref b447)])) rfl (by rw [hml]; rfl) (Steps.refl _) (a := b450) (argsL := [(.long (p0.toInt64)), (.long (p1.toInt64))]) (rest := [(.ref b450), (.ref b447), (.ref b447)]) (lenOf own_pd5 rfl) rfl (by show 2 * 0 + _ ≤ _; exact Nat.le_of_eq rfl) (hb hby at_76) (fun _ _ => ⟨rfl, e450, (by decide : 2 + 0 ≤ _), (by decide : 4 + 0 ≤ _)⟩)
    dsimp only [Pt.U, Pt.locs, Pt.cells, Pt.slots] at X459 lq459 yq459 zq459 st459 hQ459
    subst lq459 yq459 zq459
    obtain ⟨rfl, N459q, Kc459, Ec459, g459_0, g459_1⟩ := hQ459
    have N459 := Fr.app N0 N459q
    have f460 := f452.keep Kc459
    have f461 := f453.keep Kc459 (ninS ne451 nin0)
    have f462 := f454.keep Kc459 (ninS ne451 nin0)
    have Zs459 : n0 ≤ T459.heap.size := Nat.le_trans Zs450 Kc459.1
    refine own_by (V := T459.setTop (mkF m 79 #[.val (.int p0), .val (.int p1), .val (.int p2), .val (.int p3), .val (.int z1), .val (.int (1 : Int32)), .val .null, .unset, .unset, .unset] [(.ref b450), (.ref b447), (.ref b447)])) (fun t k => st459.trans k) ?_
    refine own_by (V := T459.setTop (mkF m 81 #[.val (.int p0), .val (.int p1), .val (.int p2), .val (.int p3), .val (.int z1), .val (.int (1 : Int32)), .val .null, .unset, .unset, .unset] [.null, (.ref b450), (.ref b447), (.ref b447)])) (fun t k => XS.aload X459.here hx rfl (hb hby at_79) rfl rfl k) ?_
    obtain ⟨_, _, ⟨T463, Lq463, kq463, nq463⟩, -, X463, ⟨Lc463, hQ463, lq463, yq463, zq463⟩, st463⟩ := X459.specialBack hx (y := (⟨"com/example/nocord/nocord/model/Snapshot", "<init>", "(Lcom/example/nocord/nocord/model/Timestamp;[I)V"⟩ : MethodName)) rfl hown (mvT hZ (hw _ (List.mem_of_getElem? (i := 17) rfl))) (mvT hZ (hw _ (List.mem_of_getElem? (i := 18) rfl))) (mvT hZ (hw _ (List.mem_of_getElem? (i := 19) rfl))) (by decide) (backOf (W := 1) (own_snap_null l Z a0 hw [] b447 b450 T459.heap n0 Zs459 gn447 f460 f461 f462) hZ (hw _ (List.mem_of_getElem? (i := 19) rfl)) (hw _ (List.mem_of_getElem? (i := 3) rfl)) (by decide) (by decide)) (g := (mkF m 81 #[.val (.int p0), .val (.int p1), .val (.int p2), .val (.int p3), .val (.int z1), .val (.int (1 : Int32)), .val .null, .unset, .unset, .unset] [.null, (.ref b450), (.ref b447), (.ref b447)])) rfl (by rw [hml]; rfl) (Steps.refl _) (a := b447) (argsL := [(.ref b450), .null]) (rest := [(.ref b447)]) (lenOf own_pd6 rfl) rfl (by show 2 * 0 + _ ≤ _; exact Nat.le_of_eq rfl) (hb hby at_81) (fun _ _ => ⟨rfl, rfl, (by decide : 2 + 0 ≤ _), (by decide : 4 + 0 ≤ _)⟩)
    dsimp only [Pt.U, Pt.locs, Pt.cells, Pt.slots] at X463 lq463 yq463 zq463 st463 hQ463
    subst lq463 yq463 zq463
    obtain ⟨rfl, N463q, Kc463, g463_0, g463_1, g463_2⟩ := hQ463
    have N463 := Fr.app N459 N463q
    have f464 := f460.keep Kc463
    have f467 := Ec459.keep Kc463
    have f468 := g459_0.keep Kc463 (ninS (Ne.symm ne451) nin0)
    have f469 := g459_1.keep Kc463 (ninS (Ne.symm ne451) nin0)
    have Zs463 : n0 ≤ T463.heap.size := Nat.le_trans Zs459 Kc463.1
    refine own_by (V := T463.setTop (mkF m 84 #[.val (.int p0), .val (.int p1), .val (.int p2), .val (.int p3), .val (.int z1), .val (.int (1 : Int32)), .val .null, .unset, .unset, .unset] [(.ref b447)])) (fun t k => st463.trans k) ?_
    refine own_by (V := T463.setTop (mkF m 86 #[.val (.int p0), .val (.int p1), .val (.int p2), .val (.int p3), .val (.int z1), .val (.int (1 : Int32)), .val .null, .val (.ref b447), .unset, .unset] [])) (fun t k => XS.astore X463.here hx rfl (hb hby at_84) rfl rfl (l' := #[.val (.int p0), .val (.int p1), .val (.int p2), .val (.int p3), .val (.int z1), .val (.int (1 : Int32)), .val .null, .val (.ref b447), .unset, .unset]) rfl k) ?_
    refine own_by (V := T463.setTop (mkF m 88 #[.val (.int p0), .val (.int p1), .val (.int p2), .val (.int p3), .val (.int z1), .val (.int (1 : Int32)), .val .null, .val (.ref b447), .unset, .unset] [(.ref b447)])) (fun t k => XS.aload X463.here hx rfl (hb hby at_86) rfl rfl k) ?_
    obtain ⟨cq471, kq471, q471a, q471b, q471c⟩ := isOf hZ rfl g463_0
    obtain ⟨_, _, ⟨T470, Lq470, kq470, nq470⟩, -, X470, ⟨Lc470, hQ470, lq470, yq470, zq470⟩, st470⟩ := X463.virtualBack hx (y := (⟨"com/example/nocord/nocord/model/Snapshot", "installingHashes", "()[I"⟩ : MethodName)) (z := (⟨"com/example/nocord/nocord/model/Snapshot", "installingHashes", "()[I"⟩ : MethodName)) hown (mvT hZ (hw _ (List.mem_of_getElem? (i := 48) rfl))) (mvT hZ (hw _ (List.mem_of_getElem? (i := 49) rfl))) (notFace_of_selects (args := #[]) (mvT hZ (hw _ (List.mem_of_getElem? (i := 51) rfl)))) (mvT hZ (hw _ (List.mem_of_getElem? (i := 51) rfl))) (mvT hZ (hw _ (List.mem_of_getElem? (i := 50) rfl))) (by decide) (backOf (W := 0) (own_hash_null l Z a0 hw [] b447 T463.heap n0 Zs463 g463_2) hZ (hw _ (List.mem_of_getElem? (i := 52) rfl)) (hw _ (List.mem_of_getElem? (i := 3) rfl)) (by decide) (by decide)) q471a q471c (g := (mkF m 88 #[.val (.int p0), .val (.int p1), .val (.int p2), .val (.int p3), .val (.int z1), .val (.int (1 : Int32)), .val .null, .val (.ref b447), .unset, .unset] [(.ref b447)])) rfl (by rw [hml]; rfl) (Steps.refl _) (argsL := []) (rest := []) (lenOf own_pd7 rfl) rfl (by show 2 * 0 + _ ≤ _; exact Nat.le_of_eq rfl) (hb hby at_88) (fun _ _ => ⟨rfl, rfl, (by decide : 2 + 0 ≤ _), (by decide : 4 + 0 ≤ _)⟩)
    dsimp only [Pt.U, Pt.locs, Pt.cells, Pt.slots] at X470 lq470 yq470 zq470 st470 hQ470
    subst lq470 yq470 zq470
    obtain ⟨rfl, N470q, e470⟩ := hQ470
    have N470 := Fr.app N463 N470q
    refine own_by (V := T470.setTop (mkF m 91 #[.val (.int p0), .val (.int p1), .val (.int p2), .val (.int p3), .val (.int z1), .val (.int (1 : Int32)), .val .null, .val (.ref b447), .unset, .unset] [.null])) (fun t k => st470.trans k) ?_
    refine own_by (V := T470.setTop (mkF m 93 #[.val (.int p0), .val (.int p1), .val (.int p2), .val (.int p3), .val (.int z1), .val (.int (1 : Int32)), .val .null, .val (.ref b447), .val .null, .unset] [])) (fun t k => XS.astore X470.here hx rfl (hb hby at_91) rfl rfl (l' := #[.val (.int p0), .val (.int p1), .val (.int p2), .val (.int p3), .val (.int z1), .val (.int (1 : Int32)), .val .null, .val (.ref b447), .val .null, .unset]) rfl k) ?_
    refine own_by (V := T470.setTop (mkF m 95 #[.val (.int p0), .val (.int p1), .val (.int p2), .val (.int p3), .val (.int z1), .val (.int (1 : Int32)), .val .null, .val (.ref b447), .val .null, .unset] [(.int (1 : Int32))])) (fun t k => XS.iload X470.here hx rfl (hb hby at_93) rfl  k) ?_
    have hb95_472 : ¬ ((1 : Int32) = (0 : Int32)) := by decide
    refine own_by (V := T470.setTop (mkF m 98 #[.val (.int p0), .val (.int p1), .val (.int p2), .val (.int p3), .val (.int z1), .val (.int (1 : Int32)), .val .null, .val (.ref b447), .val .null, .unset] [])) (fun t k => XS.ifNo X470.here hx rfl (hb hby at_95) rfl ((if0 _ _).trans (feq hb95_472).1) k) ?_
    refine own_by (V := T470.setTop (mkF m 100 #[.val (.int p0), .val (.int p1), .val (.int p2), .val (.int p3), .val (.int z1), .val (.int (1 : Int32)), .val .null, .val (.ref b447), .val .null, .unset] [.null])) (fun t k => XS.aload X470.here hx rfl (hb hby at_98) rfl rfl k) ?_
    refine own_by (V := T470.setTop (mkF m 103 #[.val (.int p0), .val (.int p1), .val (.int p2), .val (.int p3), .val (.int z1), .val (.int (1 : Int32)), .val .null, .val (.ref b447), .val .null, .unset] [])) (fun t k => XS.ifnonnullNo X470.here hx rfl (hb hby at_100) rfl k) ?_
    refine own_by (V := T470.setTop (mkF m 105 #[.val (.int p0), .val (.int p1), .val (.int p2), .val (.int p3), .val (.int z1), .val (.int (1 : Int32)), .val .null, .val (.ref b447), .val .null, .unset] [(.ref b447)])) (fun t k => XS.aload X470.here hx rfl (hb hby at_103) rfl rfl k) ?_
    obtain ⟨cq474, kq474, q474a, q474b, q474c⟩ := isOf hZ e470 g463_0
    obtain ⟨_, _, ⟨T473, Lq473, kq473, nq473⟩, -, X473, ⟨Lc473, hQ473, lq473, yq473, zq473⟩, st473⟩ := X470.virtualBack hx (y := (⟨"com/example/nocord/nocord/model/Snapshot", "installingHashes", "()[I"⟩ : MethodName)) (z := (⟨"com/example/nocord/nocord/model/Snapshot", "installingHashes", "()[I"⟩ : MethodName)) hown (mvT hZ (hw _ (List.mem_of_getElem? (i := 48) rfl))) (mvT hZ (hw _ (List.mem_of_getElem? (i := 49) rfl))) (notFace_of_selects (args := #[]) (mvT hZ (hw _ (List.mem_of_getElem? (i := 51) rfl)))) (mvT hZ (hw _ (List.mem_of_getElem? (i := 51) rfl))) (mvT hZ (hw _ (List.mem_of_getElem? (i := 50) rfl))) (by decide) (backOf (W := 0) (own_hash_null l Z a0 hw [] b447 T463.heap n0 Zs463 g463_2) hZ (hw _ (List.mem_of_getElem? (i := 52) rfl)) (hw _ (List.mem_of_getElem? (i := 3) rfl)) (by decide) (by decide)) q474a q474c (g := (mkF m 105 #[.val (.int p0), .val (.int p1), .val (.int p2), .val (.int p3), .val (.int z1), .val (.int (1 : Int32)), .val .null, .val (.ref b447), .val .null, .unset] [(.ref b447)])) rfl (by rw [hml]; rfl) (Steps.refl _) (argsL := []) (rest := []) (lenOf own_pd7 rfl) rfl (by show 2 * 0 + _ ≤ _; exact Nat.le_of_eq rfl) (hb hby at_105) (fun _ _ => ⟨rfl, e470, (by decide : 2 + 0 ≤ _), (by decide : 4 + 0 ≤ _)⟩)
    dsimp only [Pt.U, Pt.locs, Pt.cells, Pt.slots] at X473 lq473 yq473 zq473 st473 hQ473
    subst lq473 yq473 zq473
    obtain ⟨rfl, N473q, e473⟩ := hQ473
    have N473 := Fr.app N470 N473q
    refine own_by (V := T473.setTop (mkF m 108 #[.val (.int p0), .val (.int p1), .val (.int p2), .val (.int p3), .val (.int z1), .val (.int (1 : Int32)), .val .null, .val (.ref b447), .val .null, .unset] [.null])) (fun t k => st473.trans k) ?_
    refine own_by (V := T473.setTop (mkF m 111 #[.val (.int p0), .val (.int p1), .val (.int p2), .val (.int p3), .val (.int z1), .val (.int (1 : Int32)), .val .null, .val (.ref b447), .val .null, .unset] [])) (fun t k => XS.ifnonnullNo X473.here hx rfl (hb hby at_108) rfl k) ?_
    refine own_by (V := T473.setTop (mkF m 112 #[.val (.int p0), .val (.int p1), .val (.int p2), .val (.int p3), .val (.int z1), .val (.int (1 : Int32)), .val .null, .val (.ref b447), .val .null, .unset] [(.int (1 : Int32))])) (fun t k => XS.iconst X473.here hx rfl (hb hby at_111) k) ?_
    refine own_by (V := T473.setTop (mkF m 116 #[.val (.int p0), .val (.int p1), .val (.int p2), .val (.int p3), .val (.int z1), .val (.int (1 : Int32)), .val .null, .val (.ref b447), .val .null, .unset] [(.int (1 : Int32))])) (fun t k => XS.goto X473.here hx rfl (pc0 := 112) (pc' := 116) rfl (hb hby at_112) (by decide) (by decide) k) ?_
    refine own_retN X473 hx hlk e473 Bd.returns (t := .boolean) (by simp) rfl (hb hby at_116) ?_ (by decide) (by decide)
    exact ⟨rfl, N473⟩
set_option maxRecDepth 65536 in
set_option maxHeartbeats 40000000 in
theorem own_comes {Post : Tables → Env → Array Value → State → Outcome → State → Prop} (hpost : ∀ tb e args s v u, (limb_1_1.after args s (.returned v) u = true ∧ limb_1_2.after args s (.returned v) u = true ∧ True) → FrameEnd s (.returned v) u (Jvm.fieldLocs frame_1_writes args s ++ Jvm.arrayLocs frame_1_arrays args s ++ Jvm.staticLocs frame_1_statics s) 24 128 → Post tb e args s (.returned v) u) :
    ArmFor flags0 classFile x code maxLocals ret World_1 tables_1 room_1 Calls_1 rest_1 Pre_1 Post := by
  intro l hfl _ _ p e ha hc hk s m args below hf hA hF happ hP
  obtain ⟨hcalls, hrest, hpre⟩ := hP
  obtain ⟨-, -, -, hnamed, -, -, -, hat⟩ := (Spec.applies_iff hf).mp happ
  obtain ⟨hg, hn⟩ := and_e (Cond.before_iff.mp (show (Jvm.Cond.and given_1 narrow_1).before args s = true from hpre))
  obtain ⟨hc0, hr0⟩ := and_e hg
  obtain ⟨hv0, hr1⟩ := and_e hr0
  obtain ⟨hv1, hr2⟩ := and_e hr1
  obtain ⟨hv2, hr3⟩ := and_e hr2
  have hv3 := hr3
  obtain ⟨w0, w1, w2, w3, rfl⟩ : ∃ w0 w1 w2 w3 : Value, args = #[w0, w1, w2, w3] := by
    have hs : args.size = 4 := by simpa [Cond.value, given_1] using hc0
    obtain ⟨L⟩ := args
    match L, hs with
    | [w0, w1, w2, w3], _ => exact ⟨w0, w1, w2, w3, rfl⟩
  have hw := fun d (hd : d ∈ tables_1) => atoms_spec (ws := Jvm.Cond.code x code maxLocals ret :: tables_1) hat d (List.mem_cons_of_mem _ hd)
  have hfit : Fit s := fun {y c} hc i hi => by
    obtain ⟨ha, rfl⟩ := Array.getElem?_eq_some_iff.mp hc
    have q := List.all_eq_true.mp ((Array.all_eq_true_iff_forall_mem.mp hF) _ (Array.getElem_mem ha)) i (List.mem_range.mpr hi)
    simpa [Array.getElem?_eq_getElem hi] using q
  obtain ⟨i0, ei0⟩ := is_v hv0
  obtain rfl : w0 = (.int i0) := Option.some.inj ei0
  obtain ⟨i1, ei1⟩ := is_v hv1
  obtain rfl : w1 = (.int i1) := Option.some.inj ei1
  obtain ⟨i2, ei2⟩ := is_v hv2
  obtain rfl : w2 = (.int i2) := Option.some.inj ei2
  obtain ⟨i3, ei3⟩ := is_v hv3
  obtain rfl : w3 = (.int i3) := Option.some.inj ei3
  obtain ⟨n, o, h1, h2, h3, _, L, rfl, ⟨rfl, N⟩, hq⟩ := own_rm0 l s _ hw tables_1 i0 i1 i2 i3  s.heap s.heap.size (Nat.le_refl _) p e ha hc hk s m _ below hf ((Spec.applies_iff_loose hf).mp happ).1 ⟨rfl, State.Warmed39.refl s, rfl⟩ trivial
  refine ⟨n, _, h1, h2, h3, hpost _ _ _ _ _ _ ⟨Cond.after_iff.mpr rfl, Cond.after_iff.mpr (eq_i res_at (Term.int_eval (1)) rfl), trivial⟩ ⟨hq.1, hq.2.1, (hq.2.2.sift fun y hy => Or.inr (N y hy)).mono (by decide) (by decide)⟩⟩
theorem main_1_1 : Claimed_1_1 := own_comes fun _ _ _ _ _ _ h hF => ⟨h.1, hF⟩
theorem main_1_2 : Claimed_1_2 := own_comes fun _ _ _ _ _ _ h hF => ⟨h.2.1, hF⟩

end Jvm.Pilot.@@N@@
namespace Jvm.Pilot.@@N@@
open Jvm Jvm.ClassFile Sem Op Lib Jvm.Free Jvm.Stand Jvm.Pilot.@@N@@.Jvm.D
/-! MADE BY PROGRAM (witnessworld.py) out of the Statement's table words and the real class files: 14 classes; the members and pool entries that the words name. The judged class is class 1, her method 2. -/
namespace start1
open Jvm.ClassFile
def u (s : String) : CpInfo := .utf8 (stringToUtf16 s)
/-- a pool by its gaps: so many unusable entries, then the entry; so many at the end -/
def gap : Nat → List CpInfo → List CpInfo
  | 0, r => r
  | n + 1, r => .unusable :: gap n r
def poolList (es : List (Nat × CpInfo)) (last : Nat) : List CpInfo := es.foldr (fun e r => gap e.1 (e.2 :: r)) (gap last [])
def pool (es : List (Nat × CpInfo)) (last : Nat) : Array CpInfo := ⟨poolList es last⟩
def fileOf (pool : Array CpInfo) (this : Nat) (attrs : Array Attribute := #[]) (ms : Array MethodInfo := #[]) (fl : Nat := 33) (sup : Nat := 0) (ifs : Array Nat := #[]) (fds : Array FieldInfo := #[]) : ClassFile where
  minorVersion := 0
  majorVersion := 65
  constantPool := pool
  accessFlags := fl
  thisClass := this
  superClass := sup
  interfaces := ifs
  fields := fds
  methods := ms
  attributes := attrs
def plain (name : String) (sup : Option ClassId) : Class where
  name := name
  kind := .ordinary
  loader := none
  accessFlags := 33
  super := sup
  interfaces := #[]
  cf := none
  fields := #[]
  methods := #[]
  instanceTypes := #[]
  staticTypes := #[]
  resolved := #[]
  callSites := []
  init := .initialized
  statics := none
  mirror := none

def pool0 : Array CpInfo := pool [(5, u "<init>"), (0, u "()V"), (1, .class_ 10), (1, u "java/lang/Object"), (85, u "clone"), (0, u "()Ljava/lang/Object;")] 26

def k0c0 : Code := { maxStack := 0, maxLocals := 1, code := object_method_1_code, exceptionTable := #[], attributes := #[] }
def k0m0 : Method := { name := "<init>", desc := "()V", sig := { parameters := [], returnType := none }, accessFlags := 1, code := some k0c0 }
def k0m1 : Method := { name := "clone", desc := "()Ljava/lang/Object;", sig := { parameters := [], returnType := some (.object "java/lang/Object") }, accessFlags := 260, code := none }
/-- java/lang/Object -/
def k0 : Class := { plain "java/lang/Object" none with
  accessFlags := 33
  interfaces := #[]
  cf := some (fileOf pool0 8 #[] #[{ accessFlags := 1, nameIndex := 5, descriptorIndex := 6, attributes := #[] }, { accessFlags := 260, nameIndex := 96, descriptorIndex := 97, attributes := #[] }] 33 0 #[] #[])
  fields := #[]
  methods := #[k0m0, k0m1]
  instanceTypes := #[]
  staticTypes := #[]
  resolved := Array.replicate 124 none
  statics := none }

def pool1 : Array CpInfo := pool [(2, .class_ 4), (1, u "java/lang/Object"), (0, u "<init>"), (0, u "()V"), (0, .methodref 8 9), (0, .class_ 10), (0, .nameAndType 11 12), (0, u "java/lang/Math"), (0, u "min"), (0, u "(II)I"), (0, .methodref 8 14), (0, .nameAndType 15 12), (0, u "max"), (0, .class_ 17), (0, u "com/example/nocord/nocord/model/Snapshot"), (0, .class_ 19), (0, u "com/example/nocord/nocord/model/Timestamp"), (0, .methodref 18 21), (0, .nameAndType 5 22), (0, u "(JJ)V"), (0, .methodref 16 24), (0, .nameAndType 5 25), (0, u "(Lcom/example/nocord/nocord/model/Timestamp;[I)V"), (0, .methodref 16 27), (0, .nameAndType 28 29), (0, u "installingHashes"), (0, u "()[I"), (0, .methodref 31 32), (0, .class_ 33), (0, .nameAndType 34 35), (0, u "com/example/nocord/nocord/model/SnapshotInstallingHashesPinLaw"), (0, u "matches"), (0, u "([IIIII)Z"), (3, u "law"), (0, u "(IIII)Z")] 4

def k1m0 : Method := { name := "<init>", desc := "()V", sig := { parameters := [], returnType := none }, accessFlags := 2, code := none }
def k1c1 : Code := { maxStack := 3, maxLocals := 8, code := method_2_code, exceptionTable := #[], attributes := #[] }
def k1m1 : Method := { name := "matches", desc := "([IIIII)Z", sig := { parameters := [(.array .int), .int, .int, .int, .int], returnType := some .boolean }, accessFlags := 10, code := some k1c1 }
def k1c2 : Code := { maxStack := 8, maxLocals := 10, code := code, exceptionTable := #[], attributes := #[] }
def k1m2 : Method := { name := "law", desc := "(IIII)Z", sig := { parameters := [.int, .int, .int, .int], returnType := some .boolean }, accessFlags := 9, code := some k1c2 }
/-- com/example/nocord/nocord/model/SnapshotInstallingHashesPinLaw -/
def k1 : Class := { plain "com/example/nocord/nocord/model/SnapshotInstallingHashesPinLaw" (some 0) with
  accessFlags := 49
  interfaces := #[]
  cf := some (fileOf pool1 31 #[] #[{ accessFlags := 2, nameIndex := 5, descriptorIndex := 6, attributes := #[] }, { accessFlags := 10, nameIndex := 34, descriptorIndex := 35, attributes := #[] }, { accessFlags := 9, nameIndex := 39, descriptorIndex := 40, attributes := #[] }] 49 2 #[] #[])
  fields := #[]
  methods := #[k1m0, k1m1, k1m2]
  instanceTypes := #[]
  staticTypes := #[]
  resolved := Array.replicate 45 none
  statics := none }

def pool2 : Array CpInfo := pool [(3, .methodref 4 5), (0, .class_ 6), (0, .nameAndType 7 8), (0, u "java/lang/Object"), (0, u "<init>"), (0, u "()V"), (0, .class_ 10), (0, u "com/example/nocord/nocord/model/Snapshot"), (9, .fieldref 9 21), (0, .nameAndType 22 23), (0, u "timestamp"), (0, u "Lcom/example/nocord/nocord/model/Timestamp;"), (0, .methodref 25 26), (0, .class_ 27), (0, .nameAndType 28 29), (0, u "[I"), (0, u "clone"), (0, u "()Ljava/lang/Object;"), (0, .fieldref 9 31), (0, .nameAndType 32 27), (0, u "installing"), (0, .methodref 34 35), (0, .class_ 36), (0, .nameAndType 37 38), (0, u "java/util/Arrays"), (0, u "sort"), (0, u "([I)V"), (10, u "MAX_HASHES"), (0, u "I"), (2, u "(Lcom/example/nocord/nocord/model/Timestamp;[I)V"), (6, u "installingHashes"), (0, u "()[I")] 19

def k2c0 : Code := { maxStack := 3, maxLocals := 3, code := prog_47_method_1_code, exceptionTable := #[], attributes := #[] }
def k2m0 : Method := { name := "<init>", desc := "(Lcom/example/nocord/nocord/model/Timestamp;[I)V", sig := { parameters := [(.object "com/example/nocord/nocord/model/Timestamp"), (.array .int)], returnType := none }, accessFlags := 1, code := some k2c0 }
def k2c1 : Code := { maxStack := 1, maxLocals := 1, code := prog_47_method_3_code, exceptionTable := #[], attributes := #[] }
def k2m1 : Method := { name := "installingHashes", desc := "()[I", sig := { parameters := [], returnType := some (.array .int) }, accessFlags := 1, code := some k2c1 }
/-- com/example/nocord/nocord/model/Snapshot -/
def k2 : Class := { plain "com/example/nocord/nocord/model/Snapshot" (some 0) with
  accessFlags := 49
  interfaces := #[]
  cf := some (fileOf pool2 9 #[] #[{ accessFlags := 1, nameIndex := 7, descriptorIndex := 53, attributes := #[] }, { accessFlags := 1, nameIndex := 60, descriptorIndex := 61, attributes := #[] }] 49 4 #[] #[{ accessFlags := 25, nameIndex := 49, descriptorIndex := 50, attributes := #[] }, { accessFlags := 18, nameIndex := 22, descriptorIndex := 23, attributes := #[] }, { accessFlags := 18, nameIndex := 32, descriptorIndex := 27, attributes := #[] }])
  fields := #[{ name := "MAX_HASHES", type := .int, accessFlags := 25, slot := 0, constantValue := 0 }, { name := "timestamp", type := (.object "com/example/nocord/nocord/model/Timestamp"), accessFlags := 18, slot := 0, constantValue := 0 }, { name := "installing", type := (.array .int), accessFlags := 18, slot := 1, constantValue := 0 }]
  methods := #[k2m0, k2m1]
  instanceTypes := #[(.object "com/example/nocord/nocord/model/Timestamp"), (.array .int)]
  staticTypes := #[.int]
  resolved := Array.replicate 81 none
  statics := none }

def pool3 : Array CpInfo := pool [(1, .class_ 2), (0, u "java/lang/Comparable"), (0, .class_ 4), (0, u "java/lang/Object")] 7

/-- java/lang/Comparable -/
def k3 : Class := { plain "java/lang/Comparable" (some 0) with
  accessFlags := 1537
  interfaces := #[]
  cf := some (fileOf pool3 1 #[] #[] 1537 3 #[] #[])
  fields := #[]
  methods := #[]
  instanceTypes := #[]
  staticTypes := #[]
  resolved := Array.replicate 12 none
  statics := none }

def pool4 : Array CpInfo := pool [(1, .methodref 2 3), (0, .class_ 4), (0, .nameAndType 5 6), (0, u "java/lang/Object"), (0, u "<init>"), (0, u "()V"), (0, .fieldref 8 9), (0, .class_ 10), (0, .nameAndType 11 12), (0, u "com/example/nocord/nocord/model/Timestamp"), (0, u "time"), (0, u "J"), (0, .fieldref 8 14), (0, .nameAndType 15 12), (0, u "client"), (91, u "(JJ)V"), (2, u "EARLIEST"), (0, u "Lcom/example/nocord/nocord/model/Timestamp;"), (0, .class_ 113), (0, u "java/lang/Comparable"), (0, u "MAX_AHEAD_MICROS")] 41

def k4c0 : Code := { maxStack := 3, maxLocals := 5, code := prog_49_method_1_code, exceptionTable := #[], attributes := #[] }
def k4m0 : Method := { name := "<init>", desc := "(JJ)V", sig := { parameters := [.long, .long], returnType := none }, accessFlags := 1, code := some k4c0 }
/-- com/example/nocord/nocord/model/Timestamp -/
def k4 : Class := { plain "com/example/nocord/nocord/model/Timestamp" (some 0) with
  accessFlags := 49
  interfaces := #[3]
  cf := some (fileOf pool4 8 #[] #[{ accessFlags := 1, nameIndex := 5, descriptorIndex := 107, attributes := #[] }] 49 2 #[112] #[{ accessFlags := 25, nameIndex := 110, descriptorIndex := 111, attributes := #[] }, { accessFlags := 25, nameIndex := 114, descriptorIndex := 12, attributes := #[] }, { accessFlags := 18, nameIndex := 11, descriptorIndex := 12, attributes := #[] }, { accessFlags := 18, nameIndex := 15, descriptorIndex := 12, attributes := #[] }])
  fields := #[{ name := "EARLIEST", type := (.object "com/example/nocord/nocord/model/Timestamp"), accessFlags := 25, slot := 0, constantValue := 0 }, { name := "MAX_AHEAD_MICROS", type := .long, accessFlags := 25, slot := 1, constantValue := 0 }, { name := "time", type := .long, accessFlags := 18, slot := 0, constantValue := 0 }, { name := "client", type := .long, accessFlags := 18, slot := 1, constantValue := 0 }]
  methods := #[k4m0]
  instanceTypes := #[.long, .long]
  staticTypes := #[(.object "com/example/nocord/nocord/model/Timestamp"), .long]
  resolved := Array.replicate 156 none
  statics := none }

def pool5 : Array CpInfo := pool [(1, .class_ 2), (0, u "java/lang/Cloneable"), (0, .class_ 4), (0, u "java/lang/Object")] 2

/-- java/lang/Cloneable -/
def k5 : Class := { plain "java/lang/Cloneable" (some 0) with
  accessFlags := 1537
  interfaces := #[]
  cf := some (fileOf pool5 1 #[] #[] 1537 3 #[] #[])
  fields := #[]
  methods := #[]
  instanceTypes := #[]
  staticTypes := #[]
  resolved := Array.replicate 7 none
  statics := none }

def pool6 : Array CpInfo := pool [(2, .class_ 4), (1, u "java/lang/Object"), (0, u "<init>"), (0, u "()V"), (0, .methodref 8 9), (0, .class_ 10), (0, .nameAndType 11 12), (0, u "java/util/DualPivotQuicksort"), (0, u "sort"), (0, u "([IIII)V"), (1, .class_ 16), (1, u "java/util/Arrays"), (57, .class_ 76), (1, u "java/util/Arrays$NaturalOrder"), (36, .class_ 115), (1, u "java/util/Arrays$LegacyMergeSort"), (1, u "Z"), (257, .class_ 376), (0, u "java/util/Arrays$ArrayList"), (68, u "$assertionsDisabled"), (269, u "MIN_ARRAY_SORT_GRAN"), (0, u "I"), (2, u "INSERTIONSORT_THRESHOLD"), (6, u "([I)V"), (248, .class_ 976), (0, u "java/util/Arrays$ArrayItr")] 52

def k6m0 : Method := { name := "<init>", desc := "()V", sig := { parameters := [], returnType := none }, accessFlags := 2, code := none }
def k6c1 : Code := { maxStack := 4, maxLocals := 1, code := jdk_65_method_2_code, exceptionTable := #[], attributes := #[] }
def k6m1 : Method := { name := "sort", desc := "([I)V", sig := { parameters := [(.array .int)], returnType := none }, accessFlags := 9, code := some k6c1 }
/-- java/util/Arrays -/
def k6 : Class := { plain "java/util/Arrays" (some 0) with
  accessFlags := 49
  interfaces := #[]
  cf := some (fileOf pool6 14 #[.nestMembers #[975, 375, 113, 74]] #[{ accessFlags := 2, nameIndex := 5, descriptorIndex := 6, attributes := #[] }, { accessFlags := 9, nameIndex := 11, descriptorIndex := 726, attributes := #[] }] 49 2 #[] #[{ accessFlags := 26, nameIndex := 715, descriptorIndex := 716, attributes := #[] }, { accessFlags := 26, nameIndex := 719, descriptorIndex := 716, attributes := #[] }, { accessFlags := 4120, nameIndex := 445, descriptorIndex := 117, attributes := #[] }])
  fields := #[{ name := "MIN_ARRAY_SORT_GRAN", type := .int, accessFlags := 26, slot := 0, constantValue := 0 }, { name := "INSERTIONSORT_THRESHOLD", type := .int, accessFlags := 26, slot := 1, constantValue := 0 }, { name := "$assertionsDisabled", type := .boolean, accessFlags := 4120, slot := 2, constantValue := 0 }]
  methods := #[k6m0, k6m1]
  instanceTypes := #[]
  staticTypes := #[.int, .int, .boolean]
  resolved := Array.replicate 1029 none
  statics := none }

def pool7 : Array CpInfo := pool [(1, .class_ 2), (0, u "java/util/DualPivotQuicksort"), (5, .class_ 10), (1, u "java/lang/Object"), (0, u "<init>"), (0, u "()V"), (4, .class_ 18), (0, u "java/util/DualPivotQuicksort$Sorter"), (7, .methodref 1 27), (0, .nameAndType 28 29), (0, u "sort"), (0, u "(Ljava/util/DualPivotQuicksort$Sorter;[IIII)V"), (3, u "([IIII)V"), (0, .methodref 1 35), (0, .nameAndType 36 37), (0, u "insertionSort"), (0, u "([III)V"), (30, u "I"), (4, .class_ 74), (0, u "java/util/DualPivotQuicksort$RunMerger"), (10, .class_ 86), (0, u "java/util/DualPivotQuicksort$Merger"), (127, u "MAX_MIXED_INSERTION_SORT_SIZE"), (2, u "MAX_INSERTION_SORT_SIZE"), (1, u "MIN_PARALLEL_SORT_SIZE"), (1, u "MIN_TRY_MERGE_SIZE"), (0, u "MIN_FIRST_RUN_SIZE"), (1, u "MIN_FIRST_RUNS_FACTOR"), (1, u "MAX_RUN_CAPACITY"), (1, u "MIN_RUN_COUNT"), (1, u "MIN_PARALLEL_MERGE_PARTS_SIZE"), (0, u "MIN_BYTE_COUNTING_SORT_SIZE"), (1, u "MIN_SHORT_OR_CHAR_COUNTING_SORT_SIZE"), (1, u "DELTA"), (1, u "MAX_RECURSION_DEPTH"), (1, u "NUM_BYTE_VALUES"), (1, u "MAX_BYTE_INDEX"), (0, u "NUM_CHAR_VALUES"), (0, u "NUM_SHORT_VALUES"), (0, u "MAX_SHORT_INDEX")] 86

def k7m0 : Method := { name := "<init>", desc := "()V", sig := { parameters := [], returnType := none }, accessFlags := 2, code := none }
def k7c1 : Code := { maxStack := 9, maxLocals := 7, code := jdk_2529_method_3_code, exceptionTable := #[], attributes := #[] }
def k7m1 : Method := { name := "sort", desc := "([IIII)V", sig := { parameters := [(.array .int), .int, .int, .int], returnType := none }, accessFlags := 8, code := some k7c1 }
def k7c2 : Code := { maxStack := 6, maxLocals := 21, code := jdk_2529_method_4_code, exceptionTable := #[], attributes := #[] }
def k7m2 : Method := { name := "sort", desc := "(Ljava/util/DualPivotQuicksort$Sorter;[IIII)V", sig := { parameters := [(.object "java/util/DualPivotQuicksort$Sorter"), (.array .int), .int, .int, .int], returnType := none }, accessFlags := 8, code := some k7c2 }
def k7c3 : Code := { maxStack := 4, maxLocals := 6, code := jdk_2529_method_6_code, exceptionTable := #[], attributes := #[] }
def k7m3 : Method := { name := "insertionSort", desc := "([III)V", sig := { parameters := [(.array .int), .int, .int], returnType := none }, accessFlags := 10, code := some k7c3 }
/-- java/util/DualPivotQuicksort -/
def k7 : Class := { plain "java/util/DualPivotQuicksort" (some 0) with
  accessFlags := 48
  interfaces := #[]
  cf := some (fileOf pool7 1 #[.nestMembers #[73, 85, 17]] #[{ accessFlags := 2, nameIndex := 11, descriptorIndex := 12, attributes := #[] }, { accessFlags := 8, nameIndex := 28, descriptorIndex := 33, attributes := #[] }, { accessFlags := 8, nameIndex := 28, descriptorIndex := 29, attributes := #[] }, { accessFlags := 10, nameIndex := 36, descriptorIndex := 37, attributes := #[] }] 48 8 #[] #[{ accessFlags := 26, nameIndex := 214, descriptorIndex := 68, attributes := #[] }, { accessFlags := 26, nameIndex := 217, descriptorIndex := 68, attributes := #[] }, { accessFlags := 26, nameIndex := 219, descriptorIndex := 68, attributes := #[] }, { accessFlags := 26, nameIndex := 221, descriptorIndex := 68, attributes := #[] }, { accessFlags := 26, nameIndex := 222, descriptorIndex := 68, attributes := #[] }, { accessFlags := 26, nameIndex := 224, descriptorIndex := 68, attributes := #[] }, { accessFlags := 26, nameIndex := 226, descriptorIndex := 68, attributes := #[] }, { accessFlags := 26, nameIndex := 228, descriptorIndex := 68, attributes := #[] }, { accessFlags := 26, nameIndex := 230, descriptorIndex := 68, attributes := #[] }, { accessFlags := 26, nameIndex := 231, descriptorIndex := 68, attributes := #[] }, { accessFlags := 26, nameIndex := 233, descriptorIndex := 68, attributes := #[] }, { accessFlags := 26, nameIndex := 235, descriptorIndex := 68, attributes := #[] }, { accessFlags := 26, nameIndex := 237, descriptorIndex := 68, attributes := #[] }, { accessFlags := 26, nameIndex := 239, descriptorIndex := 68, attributes := #[] }, { accessFlags := 26, nameIndex := 241, descriptorIndex := 68, attributes := #[] }, { accessFlags := 26, nameIndex := 242, descriptorIndex := 68, attributes := #[] }, { accessFlags := 26, nameIndex := 243, descriptorIndex := 68, attributes := #[] }, { accessFlags := 26, nameIndex := 244, descriptorIndex := 68, attributes := #[] }])
  fields := #[{ name := "MAX_MIXED_INSERTION_SORT_SIZE", type := .int, accessFlags := 26, slot := 0, constantValue := 0 }, { name := "MAX_INSERTION_SORT_SIZE", type := .int, accessFlags := 26, slot := 1, constantValue := 0 }, { name := "MIN_PARALLEL_SORT_SIZE", type := .int, accessFlags := 26, slot := 2, constantValue := 0 }, { name := "MIN_TRY_MERGE_SIZE", type := .int, accessFlags := 26, slot := 3, constantValue := 0 }, { name := "MIN_FIRST_RUN_SIZE", type := .int, accessFlags := 26, slot := 4, constantValue := 0 }, { name := "MIN_FIRST_RUNS_FACTOR", type := .int, accessFlags := 26, slot := 5, constantValue := 0 }, { name := "MAX_RUN_CAPACITY", type := .int, accessFlags := 26, slot := 6, constantValue := 0 }, { name := "MIN_RUN_COUNT", type := .int, accessFlags := 26, slot := 7, constantValue := 0 }, { name := "MIN_PARALLEL_MERGE_PARTS_SIZE", type := .int, accessFlags := 26, slot := 8, constantValue := 0 }, { name := "MIN_BYTE_COUNTING_SORT_SIZE", type := .int, accessFlags := 26, slot := 9, constantValue := 0 }, { name := "MIN_SHORT_OR_CHAR_COUNTING_SORT_SIZE", type := .int, accessFlags := 26, slot := 10, constantValue := 0 }, { name := "DELTA", type := .int, accessFlags := 26, slot := 11, constantValue := 0 }, { name := "MAX_RECURSION_DEPTH", type := .int, accessFlags := 26, slot := 12, constantValue := 0 }, { name := "NUM_BYTE_VALUES", type := .int, accessFlags := 26, slot := 13, constantValue := 0 }, { name := "MAX_BYTE_INDEX", type := .int, accessFlags := 26, slot := 14, constantValue := 0 }, { name := "NUM_CHAR_VALUES", type := .int, accessFlags := 26, slot := 15, constantValue := 0 }, { name := "NUM_SHORT_VALUES", type := .int, accessFlags := 26, slot := 16, constantValue := 0 }, { name := "MAX_SHORT_INDEX", type := .int, accessFlags := 26, slot := 17, constantValue := 0 }]
  methods := #[k7m0, k7m1, k7m2, k7m3]
  instanceTypes := #[]
  staticTypes := #[.int, .int, .int, .int, .int, .int, .int, .int, .int, .int, .int, .int, .int, .int, .int, .int, .int, .int]
  resolved := Array.replicate 331 none
  statics := none }

def pool8 : Array CpInfo := pool [(1, .class_ 2), (0, u "java/lang/Math"), (1, .class_ 6), (1, u "java/lang/Object"), (0, u "<init>"), (0, u "()V"), (89, .class_ 100), (1, u "java/lang/Math$RandomNumberGeneratorHolder"), (71, u "negativeZeroFloatBits"), (0, u "J"), (2, u "negativeZeroDoubleBits"), (21, u "max"), (2, u "min"), (43, u "$assertionsDisabled"), (0, u "Z"), (88, u "(II)I"), (2, u "twoToTheDoubleScaleDown"), (0, u "D"), (4, u "twoToTheDoubleScaleUp"), (9, u "E"), (3, u "PI"), (2, u "TAU"), (2, u "DEGREES_TO_RADIANS"), (0, u "RADIANS_TO_DEGREES")] 94

def k8m0 : Method := { name := "<init>", desc := "()V", sig := { parameters := [], returnType := none }, accessFlags := 2, code := none }
def k8c1 : Code := { maxStack := 2, maxLocals := 2, code := jdk_29_method_65_code, exceptionTable := #[], attributes := #[] }
def k8m1 : Method := { name := "max", desc := "(II)I", sig := { parameters := [.int, .int], returnType := some .int }, accessFlags := 9, code := some k8c1 }
def k8c2 : Code := { maxStack := 2, maxLocals := 2, code := jdk_29_method_69_code, exceptionTable := #[], attributes := #[] }
def k8m2 : Method := { name := "min", desc := "(II)I", sig := { parameters := [.int, .int], returnType := some .int }, accessFlags := 9, code := some k8c2 }
/-- java/lang/Math -/
def k8 : Class := { plain "java/lang/Math" (some 0) with
  accessFlags := 49
  interfaces := #[]
  cf := some (fileOf pool8 1 #[.nestMembers #[98]] #[{ accessFlags := 2, nameIndex := 7, descriptorIndex := 8, attributes := #[] }, { accessFlags := 9, nameIndex := 198, descriptorIndex := 335, attributes := #[] }, { accessFlags := 9, nameIndex := 201, descriptorIndex := 335, attributes := #[] }] 49 4 #[] #[{ accessFlags := 25, nameIndex := 354, descriptorIndex := 339, attributes := #[] }, { accessFlags := 25, nameIndex := 358, descriptorIndex := 339, attributes := #[] }, { accessFlags := 25, nameIndex := 361, descriptorIndex := 339, attributes := #[] }, { accessFlags := 26, nameIndex := 364, descriptorIndex := 339, attributes := #[] }, { accessFlags := 26, nameIndex := 365, descriptorIndex := 339, attributes := #[] }, { accessFlags := 26, nameIndex := 172, descriptorIndex := 173, attributes := #[] }, { accessFlags := 26, nameIndex := 176, descriptorIndex := 173, attributes := #[] }, { accessFlags := 8, nameIndex := 344, descriptorIndex := 339, attributes := #[] }, { accessFlags := 8, nameIndex := 338, descriptorIndex := 339, attributes := #[] }, { accessFlags := 4120, nameIndex := 245, descriptorIndex := 246, attributes := #[] }])
  fields := #[{ name := "E", type := .double, accessFlags := 25, slot := 0, constantValue := 0 }, { name := "PI", type := .double, accessFlags := 25, slot := 1, constantValue := 0 }, { name := "TAU", type := .double, accessFlags := 25, slot := 2, constantValue := 0 }, { name := "DEGREES_TO_RADIANS", type := .double, accessFlags := 26, slot := 3, constantValue := 0 }, { name := "RADIANS_TO_DEGREES", type := .double, accessFlags := 26, slot := 4, constantValue := 0 }, { name := "negativeZeroFloatBits", type := .long, accessFlags := 26, slot := 5, constantValue := 0 }, { name := "negativeZeroDoubleBits", type := .long, accessFlags := 26, slot := 6, constantValue := 0 }, { name := "twoToTheDoubleScaleUp", type := .double, accessFlags := 8, slot := 7, constantValue := 0 }, { name := "twoToTheDoubleScaleDown", type := .double, accessFlags := 8, slot := 8, constantValue := 0 }, { name := "$assertionsDisabled", type := .boolean, accessFlags := 4120, slot := 9, constantValue := 0 }]
  methods := #[k8m0, k8m1, k8m2]
  instanceTypes := #[]
  staticTypes := #[.double, .double, .double, .double, .double, .long, .long, .double, .double, .boolean]
  resolved := Array.replicate 460 none
  statics := none }

def pool9 : Array CpInfo := pool [(1, u "java/io/Serializable"), (0, .class_ 1), (0, u "java/lang/Object"), (0, .class_ 3)] 3

/-- java/io/Serializable -/
def k9 : Class := { plain "java/io/Serializable" (some 0) with
  accessFlags := 1537
  interfaces := #[]
  cf := some (fileOf pool9 2 #[] #[] 1537 4 #[] #[])
  fields := #[]
  methods := #[]
  instanceTypes := #[]
  staticTypes := #[]
  resolved := Array.replicate 8 none
  statics := none }

/-- the primitive byte -/
def k10 : Class := { plain "byte" none with kind := .primitive 'B', accessFlags := 0x411 }
/-- [B -/
def k11 : Class := { plain "[B" (some 0) with kind := .array 10 .byte, interfaces := #[5, 9], accessFlags := 1041 }

/-- the primitive int -/
def k12 : Class := { plain "int" none with kind := .primitive 'I', accessFlags := 0x411 }
/-- [I -/
def k13 : Class := { plain "[I" (some 0) with kind := .array 12 .int, interfaces := #[5, 9], accessFlags := 1041 }

def heap : Heap := #[]
def classes : Array Class := #[k0, k1, k2, k3, k4, k5, k6, k7, k8, k9, k10, k11, k12, k13]
def interned : List (Array UInt16 × Addr) := []
def slotsUsed : Nat := 0
def theMethod : MethodId := ⟨1, 2⟩
def args0 : Array Value := #[.int 5, .int 7, .int 3, .int 3]
def aboutOver (below : List Frame) : State where
  vm := { classes := classes, interned := interned.toArray }
  heap := heap
  slotsUsed := slotsUsed
  threads := #[{ frames := .invoking theMethod args0 :: below }]
def below0 : List Frame := [.native { method := ⟨0, 0⟩, args := #[] }]
def about1 : State := aboutOver below0
def p0 : Program := .bare "" "" ""
def e0 : Env := launch0.env 0 0 0
theorem w_frames : about1.frames = Frame.invoking theMethod args0 :: below0 := rfl
set_option maxRecDepth 65536 in
theorem w_args : argsFit about1.vm theMethod args0 = true := by decide +kernel
set_option maxRecDepth 65536 in
theorem w_heap : heapFits about1 = true := by decide +kernel
set_option maxRecDepth 65536 in
theorem w_runnable : about1.curStatus? = some .runnable := by decide +kernel
set_option maxRecDepth 65536 in
theorem w_alone : about1.alone = true := by decide +kernel
set_option maxRecDepth 65536 in
theorem w_named : about1.methodNamed? x = some theMethod := by decide +kernel
set_option maxRecDepth 65536 in
theorem w_hears : about1.hears theMethod below0 = true := by decide +kernel
set_option maxRecDepth 65536 in
theorem w_ripe : about1.ripe theMethod args0 below0 = true := by decide +kernel
theorem w_running : about1.status = .running := rfl
set_option maxRecDepth 65536 in
theorem w_room : about1.hasRoom e0.platform room_1 = true :=
  launch0.hasRoom_least _ room_1 (by decide +kernel) (by decide +kernel) (by decide +kernel) (by decide +kernel) (by decide +kernel) (by decide +kernel)
theorem allAtoms_all (ts : List Jvm.Cond) (a : Array Jvm.Value) (st : Jvm.State) : (allAtoms ts).before a st = ts.all (fun c => c.before a st) := by
  induction ts with
  | nil => rfl
  | cons c t ih =>
    show (Jvm.Cond.and c (allAtoms t)).before a st = _
    rw [Jvm.Cond.before_and, ih, List.all_cons]
def words1 : List Jvm.Cond := Jvm.Cond.code x code maxLocals ret :: tables_1
/-- a 'code' word, met by the world's own term for the bytes: nothing is compared byte by byte -/
theorem code_word {y : MethodName} {bytes : ByteArray} {mx : Nat} {rt : Option FieldType} {a : Array Value} {s : State} {m : MethodId} {meth : Method} {c : Code} (h1 : s.methodNamed? y = some m) (h2 : s.vm.method? m = some meth) (h3 : meth.code = some c) (h4 : c.code = bytes)
    (h5 : (c.maxLocals == mx && c.exceptionTable.isEmpty && decide (c.maxStack ≤ mostOperands) && decide (meth.sig.returnType = rt) && !meth.locks && decide (parseMethodDescriptor y.desc = some meth.sig)) = true) : (Jvm.Cond.code y bytes mx rt).before a s = true := by
  simp only [Bool.and_eq_true, beq_iff_eq, Bool.not_eq_true', decide_eq_true_eq] at h5
  obtain ⟨⟨⟨⟨⟨g1, g2⟩, g3⟩, g4⟩, g5⟩, g6⟩ := h5
  simp [Cond.before, Cond.holds, Cond.value, h1, h2, h3, h4, g1, g2, g3, g4, g5, g6]
def isCode : Jvm.Cond → Bool
  | .code _ _ _ _ => true
  | _ => false
theorem all_split {L : List Jvm.Cond} {P : Jvm.Cond → Bool} (h1 : L.all (fun c => isCode c || P c) = true) (h2 : ∀ c ∈ L.filter isCode, P c = true) : L.all P = true := by
  refine List.all_eq_true.mpr fun c hc => ?_
  have h := List.all_eq_true.mp h1 c hc
  rcases Bool.eq_false_or_eq_true (isCode c) with hi | hi
  · exact h2 c (List.mem_filter.mpr ⟨hc, hi⟩)
  · simpa [hi] using h
set_option maxRecDepth 65536 in
theorem w_c0 : (Jvm.Cond.code x code maxLocals ret).before args0 about1 = true := code_word (m := ⟨1, 2⟩) (meth := k1m2) (c := k1c2) (by decide +kernel) rfl rfl rfl (by decide +kernel)
set_option maxRecDepth 65536 in
theorem w_c1 : (Jvm.Cond.code ({ cls := "com/example/nocord/nocord/model/Timestamp", name := "<init>", desc := "(JJ)V" } : Jvm.MethodName) prog_49_method_1_code (5 : Nat) (Option.none : Option Jvm.ClassFile.FieldType)).before args0 about1 = true := code_word (m := ⟨4, 0⟩) (meth := k4m0) (c := k4c0) (by decide +kernel) rfl rfl rfl (by decide +kernel)
set_option maxRecDepth 65536 in
theorem w_c2 : (Jvm.Cond.code ({ cls := "java/lang/Object", name := "<init>", desc := "()V" } : Jvm.MethodName) object_method_1_code (1 : Nat) (Option.none : Option Jvm.ClassFile.FieldType)).before args0 about1 = true := code_word (m := ⟨0, 0⟩) (meth := k0m0) (c := k0c0) (by decide +kernel) rfl rfl rfl (by decide +kernel)
set_option maxRecDepth 65536 in
theorem w_c3 : (Jvm.Cond.code ({ cls := "com/example/nocord/nocord/model/Snapshot", name := "<init>", desc := "(Lcom/example/nocord/nocord/model/Timestamp;[I)V" } : Jvm.MethodName) prog_47_method_1_code (3 : Nat) (Option.none : Option Jvm.ClassFile.FieldType)).before args0 about1 = true := code_word (m := ⟨2, 0⟩) (meth := k2m0) (c := k2c0) (by decide +kernel) rfl rfl rfl (by decide +kernel)
set_option maxRecDepth 65536 in
theorem w_c4 : (Jvm.Cond.code ({ cls := "java/util/Arrays", name := "sort", desc := "([I)V" } : Jvm.MethodName) jdk_65_method_2_code (1 : Nat) (Option.none : Option Jvm.ClassFile.FieldType)).before args0 about1 = true := code_word (m := ⟨6, 1⟩) (meth := k6m1) (c := k6c1) (by decide +kernel) rfl rfl rfl (by decide +kernel)
set_option maxRecDepth 65536 in
theorem w_c5 : (Jvm.Cond.code ({ cls := "java/util/DualPivotQuicksort", name := "sort", desc := "([IIII)V" } : Jvm.MethodName) jdk_2529_method_3_code (7 : Nat) (Option.none : Option Jvm.ClassFile.FieldType)).before args0 about1 = true := code_word (m := ⟨7, 1⟩) (meth := k7m1) (c := k7c1) (by decide +kernel) rfl rfl rfl (by decide +kernel)
set_option maxRecDepth 65536 in
theorem w_c6 : (Jvm.Cond.code ({ cls := "java/util/DualPivotQuicksort", name := "sort", desc := "(Ljava/util/DualPivotQuicksort$Sorter;[IIII)V" } : Jvm.MethodName) jdk_2529_method_4_code (21 : Nat) (Option.none : Option Jvm.ClassFile.FieldType)).before args0 about1 = true := code_word (m := ⟨7, 2⟩) (meth := k7m2) (c := k7c2) (by decide +kernel) rfl rfl rfl (by decide +kernel)
set_option maxRecDepth 65536 in
theorem w_c7 : (Jvm.Cond.code ({ cls := "java/util/DualPivotQuicksort", name := "insertionSort", desc := "([III)V" } : Jvm.MethodName) jdk_2529_method_6_code (6 : Nat) (Option.none : Option Jvm.ClassFile.FieldType)).before args0 about1 = true := code_word (m := ⟨7, 3⟩) (meth := k7m3) (c := k7c3) (by decide +kernel) rfl rfl rfl (by decide +kernel)
set_option maxRecDepth 65536 in
theorem w_c8 : (Jvm.Cond.code ({ cls := "com/example/nocord/nocord/model/Snapshot", name := "installingHashes", desc := "()[I" } : Jvm.MethodName) prog_47_method_3_code (1 : Nat) (Option.some (Jvm.ClassFile.FieldType.array Jvm.ClassFile.FieldType.int))).before args0 about1 = true := code_word (m := ⟨2, 1⟩) (meth := k2m1) (c := k2c1) (by decide +kernel) rfl rfl rfl (by decide +kernel)
set_option maxRecDepth 65536 in
theorem w_c9 : (Jvm.Cond.code ({ cls := "com/example/nocord/nocord/model/SnapshotInstallingHashesPinLaw", name := "matches", desc := "([IIIII)Z" } : Jvm.MethodName) method_2_code (8 : Nat) (Option.some Jvm.ClassFile.FieldType.boolean)).before args0 about1 = true := code_word (m := ⟨1, 1⟩) (meth := k1m1) (c := k1c1) (by decide +kernel) rfl rfl rfl (by decide +kernel)
set_option maxRecDepth 65536 in
theorem w_c10 : (Jvm.Cond.code ({ cls := "java/lang/Math", name := "min", desc := "(II)I" } : Jvm.MethodName) jdk_29_method_69_code (2 : Nat) (Option.some Jvm.ClassFile.FieldType.int)).before args0 about1 = true := code_word (m := ⟨8, 2⟩) (meth := k8m2) (c := k8c2) (by decide +kernel) rfl rfl rfl (by decide +kernel)
set_option maxRecDepth 65536 in
theorem w_c11 : (Jvm.Cond.code ({ cls := "java/lang/Math", name := "max", desc := "(II)I" } : Jvm.MethodName) jdk_29_method_65_code (2 : Nat) (Option.some Jvm.ClassFile.FieldType.int)).before args0 about1 = true := code_word (m := ⟨8, 1⟩) (meth := k8m1) (c := k8c1) (by decide +kernel) rfl rfl rfl (by decide +kernel)
def codes1 : List Jvm.Cond := [Jvm.Cond.code x code maxLocals ret, Jvm.Cond.code ({ cls := "com/example/nocord/nocord/model/Timestamp", name := "<init>", desc := "(JJ)V" } : Jvm.MethodName) prog_49_method_1_code (5 : Nat) (Option.none : Option Jvm.ClassFile.FieldType), Jvm.Cond.code ({ cls := "java/lang/Object", name := "<init>", desc := "()V" } : Jvm.MethodName) object_method_1_code (1 : Nat) (Option.none : Option Jvm.ClassFile.FieldType), Jvm.Cond.code ({ cls := "com/example/nocord/nocord/model/Snapshot", name := "<init>", desc := "(Lcom/example/nocord/nocord/model/Timestamp;[I)V" } : Jvm.MethodName) prog_47_method_1_code (3 : Nat) (Option.none : Option Jvm.ClassFile.FieldType), Jvm.Cond.code ({ cls := "java/util/Arrays", name := "sort", desc := "([I)V" } : Jvm.MethodName) jdk_65_method_2_code (1 : Nat) (Option.none : Option Jvm.ClassFile.FieldType), Jvm.Cond.code ({ cls := "java/util/DualPivotQuicksort", name := "sort", desc := "([IIII)V" } : Jvm.MethodName) jdk_2529_method_3_code (7 : Nat) (Option.none : Option Jvm.ClassFile.FieldType), Jvm.Cond.code ({ cls := "java/util/DualPivotQuicksort", name := "sort", desc := "(Ljava/util/DualPivotQuicksort$Sorter;[IIII)V" } : Jvm.MethodName) jdk_2529_method_4_code (21 : Nat) (Option.none : Option Jvm.ClassFile.FieldType), Jvm.Cond.code ({ cls := "java/util/DualPivotQuicksort", name := "insertionSort", desc := "([III)V" } : Jvm.MethodName) jdk_2529_method_6_code (6 : Nat) (Option.none : Option Jvm.ClassFile.FieldType), Jvm.Cond.code ({ cls := "com/example/nocord/nocord/model/Snapshot", name := "installingHashes", desc := "()[I" } : Jvm.MethodName) prog_47_method_3_code (1 : Nat) (Option.some (Jvm.ClassFile.FieldType.array Jvm.ClassFile.FieldType.int)), Jvm.Cond.code ({ cls := "com/example/nocord/nocord/model/SnapshotInstallingHashesPinLaw", name := "matches", desc := "([IIIII)Z" } : Jvm.MethodName) method_2_code (8 : Nat) (Option.some Jvm.ClassFile.FieldType.boolean), Jvm.Cond.code ({ cls := "java/lang/Math", name := "min", desc := "(II)I" } : Jvm.MethodName) jdk_29_method_69_code (2 : Nat) (Option.some Jvm.ClassFile.FieldType.int), Jvm.Cond.code ({ cls := "java/lang/Math", name := "max", desc := "(II)I" } : Jvm.MethodName) jdk_29_method_65_code (2 : Nat) (Option.some Jvm.ClassFile.FieldType.int)]
set_option maxRecDepth 65536 in
theorem codes_eq : words1.filter isCode = codes1 := rfl
theorem w_codes : ∀ c ∈ words1.filter isCode, c.before args0 about1 = true := by
  rw [codes_eq]
  intro c hc
  simp only [codes1, List.mem_cons, List.not_mem_nil, or_false] at hc
  rcases hc with rfl | rfl | rfl | rfl | rfl | rfl | rfl | rfl | rfl | rfl | rfl | rfl
  · exact w_c0
  · exact w_c1
  · exact w_c2
  · exact w_c3
  · exact w_c4
  · exact w_c5
  · exact w_c6
  · exact w_c7
  · exact w_c8
  · exact w_c9
  · exact w_c10
  · exact w_c11
set_option maxRecDepth 65536 in
theorem w_t1 : (words1.take 24).all (fun c => isCode c || c.before args0 about1) = true := by decide +kernel
set_option maxRecDepth 65536 in
theorem w_t2 : ((words1.drop 24).take 24).all (fun c => isCode c || c.before args0 about1) = true := by decide +kernel
set_option maxRecDepth 65536 in
theorem w_t3 : ((words1.drop 24).drop 24).all (fun c => isCode c || c.before args0 about1) = true := by decide +kernel
theorem w_tables : (allAtoms (Jvm.Cond.code x code maxLocals ret :: tables_1)).before args0 about1 = true := by
  rw [allAtoms_all]
  show words1.all (fun c => c.before args0 about1) = true
  refine all_split ?_ w_codes
  rw [← List.take_append_drop 24 words1, List.all_append, w_t1, ← List.take_append_drop 24 (words1.drop 24), List.all_append, w_t2, w_t3]
  rfl
set_option maxRecDepth 65536 in
theorem w_case : (Jvm.Cond.and given_1 narrow_1).before args0 about1 = true := by decide +kernel
theorem w_applies : (headSpec (Jvm.Cond.code x code maxLocals ret :: tables_1) room_1).applies x e0.platform about1 = true :=
  (Spec.applies_iff w_frames).mpr ⟨w_running, w_runnable, w_alone, w_named, w_hears, w_ripe, w_room, w_tables⟩
theorem atStart : AtStart classFile x code maxLocals ret World_1 tables_1 room_1 Calls_1 rest_1 Pre_1 launch0 p0 e0 about1 theMethod args0 below0 :=
  ⟨lists_1, trivial, launch0.admits_env _ _ _, launch0.least_env, fairChoices_fair.cas, fairChoices_fair.clock, w_frames, w_args, w_heap, w_applies, trivial, trivial, w_case⟩
end start1
theorem witness_1 : WitnessClaimed_1 := ⟨start1.p0, start1.e0, start1.about1, start1.theMethod, start1.args0, start1.below0, start1.atStart⟩
end Jvm.Pilot.@@N@@
