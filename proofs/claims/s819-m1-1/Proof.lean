import JvmDerived
import JvmDerived.Pilot.@@N@@Statement
import JvmDerived.Pilot.@@N@@Code
set_option linter.unusedVariables false
set_option linter.unusedSimpArgs false
@@BLOCK:NumsL.lean.txt@@
namespace Jvm.RoadKit
open Sem ClassFile Op Lib Jvm.Stand Jvm.Free Jvm.LawKit
section Own
variable {p : Program} {l : Launch} {e : Env} {R : Room} {s : State} {m : MethodId} {args : Array Value} {below : List Frame} {meth : Method} {c : Code} {T T' : State} {locs : List Loc} {cells slots : Nat}
theorem retI (X : Stand p l e R s m args below meth c T locs cells slots) (hx : p.tables.exec = Jvm.exec) {pc : Nat} {Ls : Array Slot} {z : Int32} {rest : List Value} (hret : meth.sig.returnType = some .int) (hd : decode c.code pc = .ok (.ireturn, 1)) {fs : List Frame}
    (hl : ∀ (f : JFrame) (acts : List Action), f.method = m → f.locked = none → f.entered = [] → (doReturn e (T.setTop f) acts (some (.int z))).1 = T.setFrames fs) : Steps p.tables e below (T.setTop (mkF m pc Ls (.int z :: rest))) (T.setFrames fs) := by
  have hm' : T.vm.method? m = some meth := X.method'
  have hn : narrow .int (.int z) = .int z := rfl
  show Steps p.tables e below (T.setTop { method := m, pc := pc, locals := Ls, stack := _ :: rest, locked := none }) _
  jvm_step X.here [X.here.top, hx, hd, hm', hret, hn]
  first | (intro acts; rw [hl _ acts rfl rfl rfl]) | rw [hl _ _ rfl rfl rfl]
  exact Steps.refl _
/-- what is left of a walk: it comes to an end at which K holds -/
def own_Go (p : Program) (e : Env) (below : List Frame) (K : Outcome → State → Prop) (T : State) (g : JFrame) : Prop := ∃ s₂ o, Steps p.tables e below (T.setTop g) s₂ ∧ s₂.status = .running ∧ Ended s₂ below o ∧ K o s₂
def own_K (s : State) (Q : Option Value → Heap → List Loc → Prop) (C S : Nat) (o : Outcome) (U' : State) : Prop := ∃ v L, o = .returned v ∧ Q v U'.heap L ∧ FrameEnd s o U' L C S
variable {K : Outcome → State → Prop} {g g' : JFrame} {Q : Option Value → Heap → List Loc → Prop} {C S : Nat}
theorem own_st (st : ∀ target, Steps p.tables e below (T'.setTop g') target → Steps p.tables e below (T.setTop g) target) (k : own_Go p e below K T' g') : own_Go p e below K T g := by
  obtain ⟨s2, o, h1, h2⟩ := k
  exact ⟨s2, o, st _ h1, h2⟩
theorem own_tr (st : Steps p.tables e below (T.setTop g) (T'.setTop g')) (k : own_Go p e below K T' g') : own_Go p e below K T g := by
  obtain ⟨s2, o, h1, h2⟩ := k
  exact ⟨s2, o, st.trans h1, h2⟩
theorem own_end (X : Stand p l e R s m args below meth c T locs cells slots) (hlk : meth.locks = false) {v : Option Value} (hv : meth.sig.returnType = none → v = none)
    (hst : ∀ fs, (∀ (f : JFrame) (acts : List Action), f.method = m → f.locked = none → f.entered = [] → (doReturn e (T.setTop f) acts v).1 = T.setFrames fs) → Steps p.tables e below (T.setTop g) (T.setFrames fs)) (hc : cells ≤ C) (hs : slots ≤ S) (hQ : Q v T.heap locs) :
    own_Go p e below (own_K s Q C S) T g := by
  obtain ⟨fs, hr, hrun, hended, hW, hsame⟩ := X.leave (v := v) hv hlk
  exact ⟨_, _, hst fs hr, hrun, hended, _, _, rfl, hQ, ⟨_, rfl⟩, hW, hsame.mono hc hs⟩
theorem own_retI (X : Stand p l e R s m args below meth c T locs cells slots) (hx : p.tables.exec = Jvm.exec) (hlk : meth.locks = false) {pc : Nat} {Ls : Array Slot} {z : Int32} {rest : List Value} (hret : meth.sig.returnType = some .int) (hd : decode c.code pc = .ok (.ireturn, 1)) (hc : cells ≤ C) (hs : slots ≤ S) (hQ : Q (some (.int z)) T.heap locs) :
    own_Go p e below (own_K s Q C S) T (mkF m pc Ls (.int z :: rest)) := own_end X hlk (fun h => by rw [hret] at h; cases h) (fun fs hr => retI X hx hret hd hr) hc hs hQ
theorem own_retN (X : Stand p l e R s m args below meth c T locs cells slots) (hx : p.tables.exec = Jvm.exec) (hlk : meth.locks = false) {pc : Nat} {Ls : Array Slot} {z : Int32} {t : FieldType} {rest : List Value} (hret : meth.sig.returnType = some t) (ht : t = .boolean ∨ t = .byte ∨ t = .char ∨ t = .short) (hd : decode c.code pc = .ok (.ireturn, 1)) (hc : cells ≤ C) (hs : slots ≤ S) (hQ : Q (some (.int (nar t z))) T.heap locs) :
    own_Go p e below (own_K s Q C S) T (mkF m pc Ls (.int z :: rest)) := own_end X hlk (fun h => by rw [hret] at h; cases h) (fun fs hr => retN X hx hret ht hd hr) hc hs hQ
theorem own_retA (X : Stand p l e R s m args below meth c T locs cells slots) (hx : p.tables.exec = Jvm.exec) (hlk : meth.locks = false) {pc : Nat} {Ls : Array Slot} {v : Value} {t : FieldType} {rest : List Value} (hret : meth.sig.returnType = some t) (ht : t.isReference = true) (hv : v.isRef = true) (hd : decode c.code pc = .ok (.areturn, 1)) (hc : cells ≤ C) (hs : slots ≤ S) (hQ : Q (some v) T.heap locs) :
    own_Go p e below (own_K s Q C S) T (mkF m pc Ls (v :: rest)) := own_end X hlk (fun h => by rw [hret] at h; cases h) (fun fs hr => retOut X hx hret (by cases t <;> first | (cases ht; done) | (cases v <;> first | rfl | (cases hv; done))) (Or.inr (Or.inr (Or.inr (Or.inr ⟨rfl, ht, hv⟩)))) hd hr) hc hs hQ
theorem own_retL (X : Stand p l e R s m args below meth c T locs cells slots) (hx : p.tables.exec = Jvm.exec) (hlk : meth.locks = false) {pc : Nat} {Ls : Array Slot} {w : Int64} (hret : meth.sig.returnType = some .long) (hd : decode c.code pc = .ok (.lreturn, 1)) (hc : cells ≤ C) (hs : slots ≤ S) (hQ : Q (some (.long w)) T.heap locs) :
    own_Go p e below (own_K s Q C S) T (mkF m pc Ls [.long w]) := own_end X hlk (fun h => by rw [hret] at h; cases h) (fun fs hr => X.lreturnOut hx hret hd hr) hc hs hQ
theorem own_ret (X : Stand p l e R s m args below meth c T locs cells slots) (hx : p.tables.exec = Jvm.exec) (hlk : meth.locks = false) {pc : Nat} {Ls : Array Slot} (hret : meth.sig.returnType = none) (hd : decode c.code pc = .ok (.return_, 1)) (hc : cells ≤ C) (hs : slots ≤ S) (hQ : Q none T.heap locs) :
    own_Go p e below (own_K s Q C S) T (mkF m pc Ls []) := own_end X hlk (fun _ => rfl) (fun fs hr => X.returnOut hx hret hd hr) hc hs hQ
variable {Z : State} {h : Heap} {a : Addr} {k : ClassId} {ty : FieldType} {z j : Int32} {vs : List Value} {dv v : Value} {rest : List Value} {target : State}
theorem own_len (X : Stand p l e R s m args below meth c T locs cells slots) (hx : p.tables.exec = Jvm.exec) (hZ : Z.Warmed39 s.vm) (eT : T.heap = h) (F : Arv Z h a k ty z vs dv) (hg : g.method = m) (hs : g.stack = .ref a :: rest) (hd : decode c.code g.pc = .ok (.arraylength, 1))
    (hr : Steps p.tables e below (T.setTop { g with pc := g.pc + 1, stack := .int z :: rest }) target) : Steps p.tables e below (T.setTop g) target := by
  obtain ⟨cl, A, -, S, q, -, -⟩ := F
  refine X.arraylength hx (by rw [eT]; exact A.1) (State.isArrayOf_alike hZ.alike A.2.1) hg hs hd _ ?_
  rw [len_of S q]
  exact hr
theorem own_ldR (X : Stand p l e R s m args below meth c T locs cells slots) (hx : p.tables.exec = Jvm.exec) (hZ : Z.Warmed39 s.vm) (eT : T.heap = h) (F : Arv Z h a k ty z vs dv) (hty : ty.isReference = true) (hj : ¬ j < 0 ∧ j < z) (hv : vs.getD j.toNatClampNeg dv = v) (hg : g.method = m) (hs : g.stack = .int j :: .ref a :: rest) (hd : decode c.code g.pc = .ok (.aaload, 1))
    (hr : Steps p.tables e below (T.setTop { g with pc := g.pc + 1, stack := v :: rest }) target) : Steps p.tables e below (T.setTop g) target := by
  obtain ⟨cl, A, -, S, q, H, -⟩ := F
  exact X.aaload hx (by rw [eT]; exact A.1) (State.isArrayOf_alike hZ.alike A.2.1) hty A.2.2 (inb_of S hj) (H.at (inb_of S hj) hv) hg hs hd _ hr
theorem own_ldB (X : Stand p l e R s m args below meth c T locs cells slots) (hx : p.tables.exec = Jvm.exec) (hZ : Z.Warmed39 s.vm) (eT : T.heap = h) (F : Arv Z h a k .byte z vs dv) (hj : ¬ j < 0 ∧ j < z) (hv : vs.getD j.toNatClampNeg dv = v) (hg : g.method = m) (hs : g.stack = .int j :: .ref a :: rest) (hd : decode c.code g.pc = .ok (.baload, 1))
    (hr : Steps p.tables e below (T.setTop { g with pc := g.pc + 1, stack := v :: rest }) target) : Steps p.tables e below (T.setTop g) target := by
  obtain ⟨cl, A, -, S, q, H, -⟩ := F
  exact X.baloadBytes hx (by rw [eT]; exact A.1) (State.isArrayOf_alike hZ.alike A.2.1) A.2.2 (inb_of S hj) (H.at (inb_of S hj) hv) hg hs hd _ hr
theorem own_ldJ (X : Stand p l e R s m args below meth c T locs cells slots) (hx : p.tables.exec = Jvm.exec) (hZ : Z.Warmed39 s.vm) (eT : T.heap = h) (F : Arv Z h a k .long z vs dv) (hj : ¬ j < 0 ∧ j < z) (hv : vs.getD j.toNatClampNeg dv = v) (hg : g.method = m) (hs : g.stack = .int j :: .ref a :: rest) (hd : decode c.code g.pc = .ok (.laload, 1))
    (hr : Steps p.tables e below (T.setTop { g with pc := g.pc + 1, stack := v :: rest }) target) : Steps p.tables e below (T.setTop g) target := by
  obtain ⟨cl, A, -, S, q, H, -⟩ := F
  exact X.laload hx (by rw [eT]; exact A.1) (State.isArrayOf_alike hZ.alike A.2.1) A.2.2 (inb_of S hj) (H.at (inb_of S hj) hv) hg hs hd _ hr
theorem own_stB (X : Stand p l e R s m args below meth c T locs cells slots) (hx : p.tables.exec = Jvm.exec) (hZ : Z.Warmed39 s.vm) (eT : T.heap = h) (F : Arv Z h a k .byte z vs dv) {x : Int32} (hj : ¬ j < 0 ∧ j < z) (i : Nat) (hi : j.toNatClampNeg = i) (hl : i < vs.length) (hg : g.method = m) (hs : g.stack = .int x :: .int j :: .ref a :: rest) (hd : decode c.code g.pc = .ok (.bastore, 1)) :
    ∃ T' h', Stand p l e R s m args below meth c T' (locs ++ [⟨a, j.toNatClampNeg⟩]) cells slots ∧ T'.heap = h' ∧ Wr h h' a j.toNatClampNeg (.int (nar .byte x)) ∧ Arv Z h' a k .byte z (vs.set i (.int x.toInt8.toInt32)) dv ∧ ∀ target, Steps p.tables e below (T'.setTop { g with pc := g.pc + 1, stack := rest }) target → Steps p.tables e below (T.setTop g) target := by
  obtain ⟨cl, A, q1, S, q3, H, G⟩ := F
  obtain ⟨T', h', X', e', W, st⟩ := stB X hx hZ eT A (inb_of S hj) hg hs hd
  exact ⟨T', h', X', e', W, Arv.set A q1 S q3 H G (fits_nar_byte _) W i hi hl, st⟩
theorem own_pushB (X : Stand p l e R s m args below meth c T locs cells slots) (hx : p.tables.exec = Jvm.exec) (hZ : Z.Warmed39 s.vm) (eT : T.heap = h) (F : Arv Z h a k .byte z vs dv) {x : Int32} (hj : ¬ j < 0 ∧ j < z) (hi : j.toNatClampNeg = vs.length) (hg : g.method = m) (hs : g.stack = .int x :: .int j :: .ref a :: rest) (hd : decode c.code g.pc = .ok (.bastore, 1)) :
    ∃ T' h', Stand p l e R s m args below meth c T' (locs ++ [⟨a, j.toNatClampNeg⟩]) cells slots ∧ T'.heap = h' ∧ Wr h h' a j.toNatClampNeg (.int (nar .byte x)) ∧ Arv Z h' a k .byte z (vs ++ [.int x.toInt8.toInt32]) dv ∧ ∀ target, Steps p.tables e below (T'.setTop { g with pc := g.pc + 1, stack := rest }) target → Steps p.tables e below (T.setTop g) target := by
  have F' : Arv Z h a k .byte z (vs ++ List.replicate 1 dv) dv := F.pad (pad_rep vs dv 1)
  obtain ⟨cl, A, q1, S, q3, H, G⟩ := F'
  obtain ⟨T', h', X', e', W, st⟩ := stB X hx hZ eT A (inb_of S hj) hg hs hd
  have V := Arv.set A q1 S q3 H G (fits_nar_byte _) W vs.length hi (by simp)
  have e : (vs ++ List.replicate 1 dv).set vs.length (.int x.toInt8.toInt32) = vs ++ [.int x.toInt8.toInt32] := by simp
  exact ⟨T', h', X', e', W, e ▸ V, st⟩
theorem own_stJ (X : Stand p l e R s m args below meth c T locs cells slots) (hx : p.tables.exec = Jvm.exec) (hZ : Z.Warmed39 s.vm) (eT : T.heap = h) (F : Arv Z h a k .long z vs dv) {x : Int64} (hj : ¬ j < 0 ∧ j < z) (i : Nat) (hi : j.toNatClampNeg = i) (hl : i < vs.length) (hg : g.method = m) (hs : g.stack = .long x :: .int j :: .ref a :: rest) (hd : decode c.code g.pc = .ok (.lastore, 1)) :
    ∃ T' h', Stand p l e R s m args below meth c T' (locs ++ [⟨a, j.toNatClampNeg⟩]) cells slots ∧ T'.heap = h' ∧ Wr h h' a j.toNatClampNeg (.long x) ∧ Arv Z h' a k .long z (vs.set i (.long x)) dv ∧ ∀ target, Steps p.tables e below (T'.setTop { g with pc := g.pc + 1, stack := rest }) target → Steps p.tables e below (T.setTop g) target := by
  obtain ⟨cl, A, q1, S, q3, H, G⟩ := F
  obtain ⟨T', h', X', e', W, st⟩ := stJ X hx hZ eT A (inb_of S hj) hg hs hd
  exact ⟨T', h', X', e', W, Arv.set A q1 S q3 H G rfl W i hi hl, st⟩
theorem own_stR (X : Stand p l e R s m args below meth c T locs cells slots) (hx : p.tables.exec = Jvm.exec) (hZ : Z.Warmed39 s.vm) (eT : T.heap = h) {C : String} (F : Arv Z h a k (.object C) z vs dv) {b : Addr} (O : Ovr Z k C) (I : Ins Z h b C true) (hj : ¬ j < 0 ∧ j < z) (i : Nat) (hi : j.toNatClampNeg = i) (hl : i < vs.length) (hg : g.method = m) (hs : g.stack = .ref b :: .int j :: .ref a :: rest) (hd : decode c.code g.pc = .ok (.aastore, 1)) :
    ∃ T' h', Stand p l e R s m args below meth c T' (locs ++ [⟨a, j.toNatClampNeg⟩]) cells slots ∧ T'.heap = h' ∧ Wr h h' a j.toNatClampNeg (.ref b) ∧ Arv Z h' a k (.object C) z (vs.set i (.ref b)) dv ∧ ∀ target, Steps p.tables e below (T'.setTop { g with pc := g.pc + 1, stack := rest }) target → Steps p.tables e below (T.setTop g) target := by
  obtain ⟨cl, A, q1, S, q3, H, G⟩ := F
  obtain ⟨T', h', X', e', W, st⟩ := stR X hx hZ eT A (inb_of S hj) rfl (Sto.ofV A q1 O I) hg hs hd
  exact ⟨T', h', X', e', W, Arv.set A q1 S q3 H G rfl W i hi hl, st⟩
end Own
end Jvm.RoadKit
namespace Jvm.Pilot.@@N@@
open Jvm Jvm.ClassFile Sem Op Lib Jvm.Free Jvm.Stand Jvm.LawKit Jvm.RoadKit Bundle Jvm.Pilot.@@N@@.Jvm.D
theorem own_eq_int {args : Array Value} {first s : State} {o : Option Outcome} {idx : List Nat} {t : Term} {k : Int32} (h : (Cond.eq t (.int k)).value args first o s idx = some true) : t.eval args first o idx s = some (.int k) := by
  cases ht : t.eval args first o idx s with
  | none => simp [Cond.value, ht] at h
  | some x => cases x <;> simp [Cond.value, Term.eval, ht] at h ⊢; exact h
theorem own_eq_ref {args : Array Value} {first s : State} {o : Option Outcome} {idx : List Nat} {t u : Term} {a : Addr} (hu : u.eval args first o idx s = some (.ref a)) (h : (Cond.eq t u).value args first o s idx = some true) : t.eval args first o idx s = some (.ref a) := by
  cases ht : t.eval args first o idx s with
  | none => simp [Cond.value, ht] at h
  | some x => cases x <;> simp [Cond.value, ht, hu] at h ⊢; exact h
theorem own_arr_start {args : Array Value} {Z : State} {t : Term} {a : Addr} {ty : FieldType} {z : Int32} (ev : t.eval args Z none [] Z = some (.ref a)) (ha : (Cond.arrayOf t ty).value args Z none Z [] = some true) (hl : (Cond.eq (.length t) (.int z)).value args Z none Z [] = some true) : ∃ c, Arr Z Z.heap a c ty ∧ c.slots.size < 2 ^ 31 ∧ c.slots.size.toInt32 = z := by
  obtain ⟨c, A⟩ := Arr.start ev ha
  have hq := own_eq_int hl
  have hc : Z.arrayAt? a = some c := A.fin (Vm.Alike.refl _)
  refine ⟨c, A, ?_⟩
  simp only [Term.eval, ev, hc, Option.bind_eq_bind, Option.bind_some] at hq
  split at hq
  · rename_i hlt
    simp only [Option.pure_def, Option.some.injEq, Value.int.injEq] at hq
    exact ⟨hlt, hq⟩
  · cases hq
theorem own_pn0 : plainName "com/example/vouchpoint/vouchpoint/identity/VerifiedReasonCountsAsVerifiedPinLaw" = true := by first | (simp [plainName, overriddenIn]; done) | decide +kernel
theorem own_pn1 : plainName "com/example/vouchpoint/vouchpoint/identity/VerifiedReason" = true := by first | (simp [plainName, overriddenIn]; done) | decide +kernel
theorem own_pd0 : parseMethodDescriptor "(I)Lcom/example/vouchpoint/vouchpoint/identity/VerifiedReason;" = some ⟨[.int], some (.object "com/example/vouchpoint/vouchpoint/identity/VerifiedReason")⟩ := by decide +kernel
theorem own_pd1 : parseMethodDescriptor "(Z)Z" = some ⟨[.boolean], some .boolean⟩ := by decide +kernel
theorem own_dp_0 : decode method_2_code 0 = .ok (.iload_n 0, 1) := by decide +kernel
theorem own_dp_1 : decode method_2_code 1 = .ok (.ifCond .ne 7, 3) := by decide +kernel
theorem own_dp_4 : decode method_2_code 4 = .ok (.getstatic 7, 3) := by decide +kernel
theorem own_dp_7 : decode method_2_code 7 = .ok (.areturn, 1) := by decide +kernel
theorem own_dp_8 : decode method_2_code 8 = .ok (.iload_n 0, 1) := by decide +kernel
theorem own_dp_9 : decode method_2_code 9 = .ok (.iconst 1, 1) := by decide +kernel
theorem own_dp_10 : decode method_2_code 10 = .ok (.if_icmp .ne 7, 3) := by decide +kernel
theorem own_dp_13 : decode method_2_code 13 = .ok (.getstatic 13, 3) := by decide +kernel
theorem own_dp_16 : decode method_2_code 16 = .ok (.areturn, 1) := by decide +kernel
theorem own_dp_17 : decode method_2_code 17 = .ok (.iload_n 0, 1) := by decide +kernel
theorem own_dp_18 : decode method_2_code 18 = .ok (.iconst 2, 1) := by decide +kernel
theorem own_dp_19 : decode method_2_code 19 = .ok (.if_icmp .ne 7, 3) := by decide +kernel
theorem own_dp_22 : decode method_2_code 22 = .ok (.getstatic 16, 3) := by decide +kernel
theorem own_dp_25 : decode method_2_code 25 = .ok (.areturn, 1) := by decide +kernel
theorem own_dp_26 : decode method_2_code 26 = .ok (.iload_n 0, 1) := by decide +kernel
theorem own_dp_27 : decode method_2_code 27 = .ok (.iconst 3, 1) := by decide +kernel
theorem own_dp_28 : decode method_2_code 28 = .ok (.if_icmp .ne 7, 3) := by decide +kernel
theorem own_dp_31 : decode method_2_code 31 = .ok (.getstatic 19, 3) := by decide +kernel
theorem own_dp_34 : decode method_2_code 34 = .ok (.areturn, 1) := by decide +kernel
theorem own_dp_35 : decode method_2_code 35 = .ok (.iload_n 0, 1) := by decide +kernel
theorem own_dp_36 : decode method_2_code 36 = .ok (.iconst 4, 1) := by decide +kernel
theorem own_dp_37 : decode method_2_code 37 = .ok (.if_icmp .ne 7, 3) := by decide +kernel
theorem own_dp_40 : decode method_2_code 40 = .ok (.getstatic 22, 3) := by decide +kernel
theorem own_dp_43 : decode method_2_code 43 = .ok (.areturn, 1) := by decide +kernel
theorem own_dp_44 : decode method_2_code 44 = .ok (.iload_n 0, 1) := by decide +kernel
theorem own_dp_45 : decode method_2_code 45 = .ok (.iconst 5, 1) := by decide +kernel
theorem own_dp_46 : decode method_2_code 46 = .ok (.if_icmp .ne 7, 3) := by decide +kernel
theorem own_dp_49 : decode method_2_code 49 = .ok (.getstatic 25, 3) := by decide +kernel
theorem own_dp_52 : decode method_2_code 52 = .ok (.areturn, 1) := by decide +kernel
theorem own_dp_53 : decode method_2_code 53 = .ok (.iload_n 0, 1) := by decide +kernel
theorem own_dp_54 : decode method_2_code 54 = .ok (.bipush 6, 2) := by decide +kernel
theorem own_dp_56 : decode method_2_code 56 = .ok (.if_icmp .ne 7, 3) := by decide +kernel
theorem own_dp_59 : decode method_2_code 59 = .ok (.getstatic 28, 3) := by decide +kernel
theorem own_dp_62 : decode method_2_code 62 = .ok (.areturn, 1) := by decide +kernel
theorem own_dp_63 : decode method_2_code 63 = .ok (.iload_n 0, 1) := by decide +kernel
theorem own_dp_64 : decode method_2_code 64 = .ok (.bipush 7, 2) := by decide +kernel
theorem own_dp_66 : decode method_2_code 66 = .ok (.if_icmp .ne 7, 3) := by decide +kernel
theorem own_dp_69 : decode method_2_code 69 = .ok (.getstatic 31, 3) := by decide +kernel
theorem own_dp_72 : decode method_2_code 72 = .ok (.areturn, 1) := by decide +kernel
theorem own_dp_73 : decode method_2_code 73 = .ok (.getstatic 34, 3) := by decide +kernel
theorem own_dp_76 : decode method_2_code 76 = .ok (.areturn, 1) := by decide +kernel
theorem own_dc_0 : decode prog_15_method_5_code 0 = .ok (.iload_n 1, 1) := by decide +kernel
theorem own_dc_1 : decode prog_15_method_5_code 1 = .ok (.ifCond .ne 10, 3) := by decide +kernel
theorem own_dc_4 : decode prog_15_method_5_code 4 = .ok (.aload_n 0, 1) := by decide +kernel
theorem own_dc_5 : decode prog_15_method_5_code 5 = .ok (.getfield 54, 3) := by decide +kernel
theorem own_dc_8 : decode prog_15_method_5_code 8 = .ok (.ifCond .eq 7, 3) := by decide +kernel
theorem own_dc_11 : decode prog_15_method_5_code 11 = .ok (.iconst 1, 1) := by decide +kernel
theorem own_dc_12 : decode prog_15_method_5_code 12 = .ok (.goto 4, 3) := by decide +kernel
theorem own_dc_15 : decode prog_15_method_5_code 15 = .ok (.iconst 0, 1) := by decide +kernel
theorem own_dc_16 : decode prog_15_method_5_code 16 = .ok (.ireturn, 1) := by decide +kernel
def own_pick (w_SKIPPED w_TRUSTED w_UNVERIFIABLE w_DISABLED w_ADMINISTRATIVE w_IMPORT w_COMPLETED w_IMPLICIT w_PENDING : Addr) (i : Int32) : Addr := if i = 0 then w_SKIPPED else if i = 1 then w_TRUSTED else if i = 2 then w_UNVERIFIABLE else if i = 3 then w_DISABLED else if i = 4 then w_ADMINISTRATIVE else if i = 5 then w_IMPORT else if i = 6 then w_COMPLETED else if i = 7 then w_IMPLICIT else w_PENDING
theorem own_ef_pick (m : MethodId) (x0 : Int32) : entryFrame m #[(.int x0)] 1 = mkF m 0 #[.val (.int x0)] [] := by first | (simp [entryFrame, mkF, argsToLocals, Value.category]; done) | rfl
def own_Q_pick (Z : State) (i : Int32) (w_SKIPPED : Addr) (w_TRUSTED : Addr) (w_UNVERIFIABLE : Addr) (w_DISABLED : Addr) (w_ADMINISTRATIVE : Addr) (w_IMPORT : Addr) (w_COMPLETED : Addr) (w_IMPLICIT : Addr) (w_PENDING : Addr) (h0 : Heap) (n0 : Nat) (v : Option Value) (h : Heap) (L : List Loc) : Prop := v = some (.ref (own_pick w_SKIPPED w_TRUSTED w_UNVERIFIABLE w_DISABLED w_ADMINISTRATIVE w_IMPORT w_COMPLETED w_IMPLICIT w_PENDING i)) ∧ Fr n0 L ∧ h = h0
set_option maxRecDepth 65536 in
set_option maxHeartbeats 40000000 in
theorem own_rm_pick (l : Launch) (Z : State) (a0 : Array Value) (hw : ∀ d ∈ tables_1, d.before a0 Z = true) (ws : List Jvm.Cond) (i : Int32) (w_SKIPPED : Addr) (w_TRUSTED : Addr) (w_UNVERIFIABLE : Addr) (w_DISABLED : Addr) (w_ADMINISTRATIVE : Addr) (w_IMPORT : Addr) (w_COMPLETED : Addr) (w_IMPLICIT : Addr) (w_PENDING : Addr) (h0 : Heap) (n0 : Nat) (Z0 : n0 ≤ h0.size) (S_SKIPPED : Sta Z h0 "com/example/vouchpoint/vouchpoint/identity/VerifiedReason" "SKIPPED" "Lcom/example/vouchpoint/vouchpoint/identity/VerifiedReason;" (.ref w_SKIPPED)) (S_TRUSTED : Sta Z h0 "com/example/vouchpoint/vouchpoint/identity/VerifiedReason" "TRUSTED" "Lcom/example/vouchpoint/vouchpoint/identity/VerifiedReason;" (.ref w_TRUSTED)) (S_UNVERIFIABLE : Sta Z h0 "com/example/vouchpoint/vouchpoint/identity/VerifiedReason" "UNVERIFIABLE" "Lcom/example/vouchpoint/vouchpoint/identity/VerifiedReason;" (.ref w_UNVERIFIABLE)) (S_DISABLED : Sta Z h0 "com/example/vouchpoint/vouchpoint/identity/VerifiedReason" "DISABLED" "Lcom/example/vouchpoint/vouchpoint/identity/VerifiedReason;" (.ref w_DISABLED)) (S_ADMINISTRATIVE : Sta Z h0 "com/example/vouchpoint/vouchpoint/identity/VerifiedReason" "ADMINISTRATIVE" "Lcom/example/vouchpoint/vouchpoint/identity/VerifiedReason;" (.ref w_ADMINISTRATIVE)) (S_IMPORT : Sta Z h0 "com/example/vouchpoint/vouchpoint/identity/VerifiedReason" "IMPORT" "Lcom/example/vouchpoint/vouchpoint/identity/VerifiedReason;" (.ref w_IMPORT)) (S_COMPLETED : Sta Z h0 "com/example/vouchpoint/vouchpoint/identity/VerifiedReason" "COMPLETED" "Lcom/example/vouchpoint/vouchpoint/identity/VerifiedReason;" (.ref w_COMPLETED)) (S_IMPLICIT : Sta Z h0 "com/example/vouchpoint/vouchpoint/identity/VerifiedReason" "IMPLICIT" "Lcom/example/vouchpoint/vouchpoint/identity/VerifiedReason;" (.ref w_IMPLICIT)) (S_PENDING : Sta Z h0 "com/example/vouchpoint/vouchpoint/identity/VerifiedReason" "PENDING" "Lcom/example/vouchpoint/vouchpoint/identity/VerifiedReason;" (.ref w_PENDING)) :
    MetFree l (⟨"com/example/vouchpoint/vouchpoint/identity/VerifiedReasonCountsAsVerifiedPinLaw", "pick", "(I)Lcom/example/vouchpoint/vouchpoint/identity/VerifiedReason;"⟩ : MethodName) (head1 (Jvm.Cond.code (⟨"com/example/vouchpoint/vouchpoint/identity/VerifiedReasonCountsAsVerifiedPinLaw", "pick", "(I)Lcom/example/vouchpoint/vouchpoint/identity/VerifiedReason;"⟩ : MethodName) method_2_code 1 (some (.object "com/example/vouchpoint/vouchpoint/identity/VerifiedReason")) :: ws) ({ frames := 0, cells := 0, slots := 0, locals := 0 } : Room)) (fun zz U => zz = #[(.int i)] ∧ Z.Warmed39 U.vm ∧ U.heap = h0) (fun _ _ _ _ _ => True) (fun _ U o U' => ∃ v L, o = .returned v ∧ own_Q_pick Z i w_SKIPPED w_TRUSTED w_UNVERIFIABLE w_DISABLED w_ADMINISTRATIVE w_IMPORT w_COMPLETED w_IMPLICIT w_PENDING h0 n0 v U'.heap L ∧ FrameEnd U o U' L ({ frames := 0, cells := 0, slots := 0, locals := 0 } : Room).cells ({ frames := 0, cells := 0, slots := 0, locals := 0 } : Room).slots) := by
  refine MetFree.of_bodySF (plainFor_of_name own_pn0) hisR ?_
  intro p e s m args below meth c s₁ Bd hml0 hP hK
  obtain ⟨rfl, hZ, hh⟩ := hP
  have hx := Bd.exec
  have hby := Bd.bytes
  have hml : c.maxLocals = 1 := hml0
  have hown : s.vm.findClass "com/example/vouchpoint/vouchpoint/identity/VerifiedReasonCountsAsVerifiedPinLaw" = some m.cls := findClass_of_methodNamed Bd.named
  have hnm := (name_of_methodNamed Bd.named Bd.method).1
  have X0 : Stand p l e ({ frames := 0, cells := 0, slots := 0, locals := 0 } : Room) s m #[(.int i)] below meth c s₁ [] 0 0 := Stand.of_body Bd
  have e0 : s₁.heap = h0 := by rw [← hh, Bd.state]; rfl
  have N0 := Fr.nil n0
  show own_Go p e below (own_K s (own_Q_pick Z i w_SKIPPED w_TRUSTED w_UNVERIFIABLE w_DISABLED w_ADMINISTRATIVE w_IMPORT w_COMPLETED w_IMPLICIT w_PENDING h0 n0) ({ frames := 0, cells := 0, slots := 0, locals := 0 } : Room).cells ({ frames := 0, cells := 0, slots := 0, locals := 0 } : Room).slots) s₁ (entryFrame m #[(.int i)] 1)
  rw [own_ef_pick m i]
  show own_Go p e below _ s₁ (mkF m 0 #[iv i] [])
  refine own_st (fun _ k => XS.iloadN X0.here hx rfl (hb hby own_dp_0) rfl k) ?_
  show own_Go p e below _ s₁ (mkF m 1 #[iv i] [(.int i)])
  by_cases c0 : i = 0
  · refine own_st (fun _ k => XS.ifNo X0.here hx rfl (hb hby own_dp_1) rfl (XT.i0_ne_f c0) k) ?_
    show own_Go p e below _ s₁ (mkF m 4 #[iv i] [])
    obtain ⟨T1, X1, e1, st1⟩ := getS2 X0 hx hZ hown (host := "") (Or.inl (hw _ (List.mem_of_getElem? (i := 5) rfl))) Via.refl e0 S_SKIPPED (g := (mkF m 4 #[iv i] [])) rfl (hb hby own_dp_4)
    refine own_st st1 ?_
    show own_Go p e below _ T1 (mkF m 7 #[iv i] [(.ref w_SKIPPED)])
    refine own_retA X1 hx Bd.notSynchronized Bd.returns rfl rfl (hb hby own_dp_7) (by decide) (by decide) ?_
    rw [e1]
    exact ⟨by simp [own_pick, c0], N0, rfl⟩
  · refine own_st (fun _ k => XS.ifYes X0.here hx rfl (pc0 := 1) (pc' := 8) rfl (hb hby own_dp_1) rfl (XT.i0_ne_t c0) (by decide) (by decide) k) ?_
    show own_Go p e below _ s₁ (mkF m 8 #[iv i] [])
    refine own_st (fun _ k => XS.iloadN X0.here hx rfl (hb hby own_dp_8) rfl k) ?_
    show own_Go p e below _ s₁ (mkF m 9 #[iv i] [(.int i)])
    refine own_st (fun _ k => XT.iconstV X0.here hx rfl (1 : Int32) (hb hby own_dp_9) (by decide) k) ?_
    show own_Go p e below _ s₁ (mkF m 10 #[iv i] [(.int 1), (.int i)])
    by_cases c1 : i = (1 : Int32)
    · refine own_st (fun _ k => XS.icmpNo X0.here hx rfl (hb hby own_dp_10) rfl (XT.ii_ne_f c1) k) ?_
      show own_Go p e below _ s₁ (mkF m 13 #[iv i] [])
      obtain ⟨T3, X3, e3, st3⟩ := getS2 X0 hx hZ hown (host := "") (Or.inl (hw _ (List.mem_of_getElem? (i := 19) rfl))) Via.refl e0 S_TRUSTED (g := (mkF m 13 #[iv i] [])) rfl (hb hby own_dp_13)
      refine own_st st3 ?_
      show own_Go p e below _ T3 (mkF m 16 #[iv i] [(.ref w_TRUSTED)])
      refine own_retA X3 hx Bd.notSynchronized Bd.returns rfl rfl (hb hby own_dp_16) (by decide) (by decide) ?_
      rw [e3]
      exact ⟨by simp [own_pick, c0, c1], N0, rfl⟩
    · refine own_st (fun _ k => XS.icmpYes X0.here hx rfl (pc0 := 10) (pc' := 17) rfl (hb hby own_dp_10) rfl (XT.ii_ne_t c1) (by decide) (by decide) k) ?_
      show own_Go p e below _ s₁ (mkF m 17 #[iv i] [])
      refine own_st (fun _ k => XS.iloadN X0.here hx rfl (hb hby own_dp_17) rfl k) ?_
      show own_Go p e below _ s₁ (mkF m 18 #[iv i] [(.int i)])
      refine own_st (fun _ k => XT.iconstV X0.here hx rfl (2 : Int32) (hb hby own_dp_18) (by decide) k) ?_
      show own_Go p e below _ s₁ (mkF m 19 #[iv i] [(.int 2), (.int i)])
      by_cases c2 : i = (2 : Int32)
      · refine own_st (fun _ k => XS.icmpNo X0.here hx rfl (hb hby own_dp_19) rfl (XT.ii_ne_f c2) k) ?_
        show own_Go p e below _ s₁ (mkF m 22 #[iv i] [])
        obtain ⟨T5, X5, e5, st5⟩ := getS2 X0 hx hZ hown (host := "") (Or.inl (hw _ (List.mem_of_getElem? (i := 27) rfl))) Via.refl e0 S_UNVERIFIABLE (g := (mkF m 22 #[iv i] [])) rfl (hb hby own_dp_22)
        refine own_st st5 ?_
        show own_Go p e below _ T5 (mkF m 25 #[iv i] [(.ref w_UNVERIFIABLE)])
        refine own_retA X5 hx Bd.notSynchronized Bd.returns rfl rfl (hb hby own_dp_25) (by decide) (by decide) ?_
        rw [e5]
        exact ⟨by simp [own_pick, c0, c1, c2], N0, rfl⟩
      · refine own_st (fun _ k => XS.icmpYes X0.here hx rfl (pc0 := 19) (pc' := 26) rfl (hb hby own_dp_19) rfl (XT.ii_ne_t c2) (by decide) (by decide) k) ?_
        show own_Go p e below _ s₁ (mkF m 26 #[iv i] [])
        refine own_st (fun _ k => XS.iloadN X0.here hx rfl (hb hby own_dp_26) rfl k) ?_
        show own_Go p e below _ s₁ (mkF m 27 #[iv i] [(.int i)])
        refine own_st (fun _ k => XT.iconstV X0.here hx rfl (3 : Int32) (hb hby own_dp_27) (by decide) k) ?_
        show own_Go p e below _ s₁ (mkF m 28 #[iv i] [(.int 3), (.int i)])
        by_cases c3 : i = (3 : Int32)
        · refine own_st (fun _ k => XS.icmpNo X0.here hx rfl (hb hby own_dp_28) rfl (XT.ii_ne_f c3) k) ?_
          show own_Go p e below _ s₁ (mkF m 31 #[iv i] [])
          obtain ⟨T7, X7, e7, st7⟩ := getS2 X0 hx hZ hown (host := "") (Or.inl (hw _ (List.mem_of_getElem? (i := 25) rfl))) Via.refl e0 S_DISABLED (g := (mkF m 31 #[iv i] [])) rfl (hb hby own_dp_31)
          refine own_st st7 ?_
          show own_Go p e below _ T7 (mkF m 34 #[iv i] [(.ref w_DISABLED)])
          refine own_retA X7 hx Bd.notSynchronized Bd.returns rfl rfl (hb hby own_dp_34) (by decide) (by decide) ?_
          rw [e7]
          exact ⟨by simp [own_pick, c0, c1, c2, c3], N0, rfl⟩
        · refine own_st (fun _ k => XS.icmpYes X0.here hx rfl (pc0 := 28) (pc' := 35) rfl (hb hby own_dp_28) rfl (XT.ii_ne_t c3) (by decide) (by decide) k) ?_
          show own_Go p e below _ s₁ (mkF m 35 #[iv i] [])
          refine own_st (fun _ k => XS.iloadN X0.here hx rfl (hb hby own_dp_35) rfl k) ?_
          show own_Go p e below _ s₁ (mkF m 36 #[iv i] [(.int i)])
          refine own_st (fun _ k => XT.iconstV X0.here hx rfl (4 : Int32) (hb hby own_dp_36) (by decide) k) ?_
          show own_Go p e below _ s₁ (mkF m 37 #[iv i] [(.int 4), (.int i)])
          by_cases c4 : i = (4 : Int32)
          · refine own_st (fun _ k => XS.icmpNo X0.here hx rfl (hb hby own_dp_37) rfl (XT.ii_ne_f c4) k) ?_
            show own_Go p e below _ s₁ (mkF m 40 #[iv i] [])
            obtain ⟨T9, X9, e9, st9⟩ := getS2 X0 hx hZ hown (host := "") (Or.inl (hw _ (List.mem_of_getElem? (i := 17) rfl))) Via.refl e0 S_ADMINISTRATIVE (g := (mkF m 40 #[iv i] [])) rfl (hb hby own_dp_40)
            refine own_st st9 ?_
            show own_Go p e below _ T9 (mkF m 43 #[iv i] [(.ref w_ADMINISTRATIVE)])
            refine own_retA X9 hx Bd.notSynchronized Bd.returns rfl rfl (hb hby own_dp_43) (by decide) (by decide) ?_
            rw [e9]
            exact ⟨by simp [own_pick, c0, c1, c2, c3, c4], N0, rfl⟩
          · refine own_st (fun _ k => XS.icmpYes X0.here hx rfl (pc0 := 37) (pc' := 44) rfl (hb hby own_dp_37) rfl (XT.ii_ne_t c4) (by decide) (by decide) k) ?_
            show own_Go p e below _ s₁ (mkF m 44 #[iv i] [])
            refine own_st (fun _ k => XS.iloadN X0.here hx rfl (hb hby own_dp_44) rfl k) ?_
            show own_Go p e below _ s₁ (mkF m 45 #[iv i] [(.int i)])
            refine own_st (fun _ k => XT.iconstV X0.here hx rfl (5 : Int32) (hb hby own_dp_45) (by decide) k) ?_
            show own_Go p e below _ s₁ (mkF m 46 #[iv i] [(.int 5), (.int i)])
            by_cases c5 : i = (5 : Int32)
            · refine own_st (fun _ k => XS.icmpNo X0.here hx rfl (hb hby own_dp_46) rfl (XT.ii_ne_f c5) k) ?_
              show own_Go p e below _ s₁ (mkF m 49 #[iv i] [])
              obtain ⟨T11, X11, e11, st11⟩ := getS2 X0 hx hZ hown (host := "") (Or.inl (hw _ (List.mem_of_getElem? (i := 13) rfl))) Via.refl e0 S_IMPORT (g := (mkF m 49 #[iv i] [])) rfl (hb hby own_dp_49)
              refine own_st st11 ?_
              show own_Go p e below _ T11 (mkF m 52 #[iv i] [(.ref w_IMPORT)])
              refine own_retA X11 hx Bd.notSynchronized Bd.returns rfl rfl (hb hby own_dp_52) (by decide) (by decide) ?_
              rw [e11]
              exact ⟨by simp [own_pick, c0, c1, c2, c3, c4, c5], N0, rfl⟩
            · refine own_st (fun _ k => XS.icmpYes X0.here hx rfl (pc0 := 46) (pc' := 53) rfl (hb hby own_dp_46) rfl (XT.ii_ne_t c5) (by decide) (by decide) k) ?_
              show own_Go p e below _ s₁ (mkF m 53 #[iv i] [])
              refine own_st (fun _ k => XS.iloadN X0.here hx rfl (hb hby own_dp_53) rfl k) ?_
              show own_Go p e below _ s₁ (mkF m 54 #[iv i] [(.int i)])
              refine own_st (fun _ k => XT.bipushV X0.here hx rfl (6 : Int32) (hb hby own_dp_54) (by decide) k) ?_
              show own_Go p e below _ s₁ (mkF m 56 #[iv i] [(.int 6), (.int i)])
              by_cases c6 : i = (6 : Int32)
              · refine own_st (fun _ k => XS.icmpNo X0.here hx rfl (hb hby own_dp_56) rfl (XT.ii_ne_f c6) k) ?_
                show own_Go p e below _ s₁ (mkF m 59 #[iv i] [])
                obtain ⟨T13, X13, e13, st13⟩ := getS2 X0 hx hZ hown (host := "") (Or.inl (hw _ (List.mem_of_getElem? (i := 21) rfl))) Via.refl e0 S_COMPLETED (g := (mkF m 59 #[iv i] [])) rfl (hb hby own_dp_59)
                refine own_st st13 ?_
                show own_Go p e below _ T13 (mkF m 62 #[iv i] [(.ref w_COMPLETED)])
                refine own_retA X13 hx Bd.notSynchronized Bd.returns rfl rfl (hb hby own_dp_62) (by decide) (by decide) ?_
                rw [e13]
                exact ⟨by simp [own_pick, c0, c1, c2, c3, c4, c5, c6], N0, rfl⟩
              · refine own_st (fun _ k => XS.icmpYes X0.here hx rfl (pc0 := 56) (pc' := 63) rfl (hb hby own_dp_56) rfl (XT.ii_ne_t c6) (by decide) (by decide) k) ?_
                show own_Go p e below _ s₁ (mkF m 63 #[iv i] [])
                refine own_st (fun _ k => XS.iloadN X0.here hx rfl (hb hby own_dp_63) rfl k) ?_
                show own_Go p e below _ s₁ (mkF m 64 #[iv i] [(.int i)])
                refine own_st (fun _ k => XT.bipushV X0.here hx rfl (7 : Int32) (hb hby own_dp_64) (by decide) k) ?_
                show own_Go p e below _ s₁ (mkF m 66 #[iv i] [(.int 7), (.int i)])
                by_cases c7 : i = (7 : Int32)
                · refine own_st (fun _ k => XS.icmpNo X0.here hx rfl (hb hby own_dp_66) rfl (XT.ii_ne_f c7) k) ?_
                  show own_Go p e below _ s₁ (mkF m 69 #[iv i] [])
                  obtain ⟨T15, X15, e15, st15⟩ := getS2 X0 hx hZ hown (host := "") (Or.inl (hw _ (List.mem_of_getElem? (i := 29) rfl))) Via.refl e0 S_IMPLICIT (g := (mkF m 69 #[iv i] [])) rfl (hb hby own_dp_69)
                  refine own_st st15 ?_
                  show own_Go p e below _ T15 (mkF m 72 #[iv i] [(.ref w_IMPLICIT)])
                  refine own_retA X15 hx Bd.notSynchronized Bd.returns rfl rfl (hb hby own_dp_72) (by decide) (by decide) ?_
                  rw [e15]
                  exact ⟨by simp [own_pick, c0, c1, c2, c3, c4, c5, c6, c7], N0, rfl⟩
                · refine own_st (fun _ k => XS.icmpYes X0.here hx rfl (pc0 := 66) (pc' := 73) rfl (hb hby own_dp_66) rfl (XT.ii_ne_t c7) (by decide) (by decide) k) ?_
                  show own_Go p e below _ s₁ (mkF m 73 #[iv i] [])
                  obtain ⟨T17, X17, e17, st17⟩ := getS2 X0 hx hZ hown (host := "") (Or.inl (hw _ (List.mem_of_getElem? (i := 23) rfl))) Via.refl e0 S_PENDING (g := (mkF m 73 #[iv i] [])) rfl (hb hby own_dp_73)
                  refine own_st st17 ?_
                  show own_Go p e below _ T17 (mkF m 76 #[iv i] [(.ref w_PENDING)])
                  refine own_retA X17 hx Bd.notSynchronized Bd.returns rfl rfl (hb hby own_dp_76) (by decide) (by decide) ?_
                  rw [e17]
                  exact ⟨by simp [own_pick, c0, c1, c2, c3, c4, c5, c6, c7], N0, rfl⟩
theorem own_ef_cav (m : MethodId) (x0 : Addr) (x1 : Int32) : entryFrame m #[(.ref x0), (.int x1)] 2 = mkF m 0 #[.val (.ref x0), .val (.int x1)] [] := by first | (simp [entryFrame, mkF, argsToLocals, Value.category]; done) | rfl
def own_Q_cav (Z : State) (a : Addr) (f : Int32) (r : Int32) (h0 : Heap) (n0 : Nat) (v : Option Value) (h : Heap) (L : List Loc) : Prop := v = some (.int (if f = 0 then (if r = 0 then 0 else 1) else 1)) ∧ Fr n0 L ∧ h = h0
set_option maxRecDepth 65536 in
set_option maxHeartbeats 40000000 in
theorem own_rm_cav (l : Launch) (Z : State) (a0 : Array Value) (hw : ∀ d ∈ tables_1, d.before a0 Z = true) (ws : List Jvm.Cond) (a : Addr) (f : Int32) (r : Int32) (h0 : Heap) (n0 : Nat) (Z0 : n0 ≤ h0.size) (F : Fld Z h0 a "com/example/vouchpoint/vouchpoint/identity/VerifiedReason" "verifiedRegardlessOfFlag" "Z" (.int r)) :
    MetFree l (⟨"com/example/vouchpoint/vouchpoint/identity/VerifiedReason", "countsAsVerified", "(Z)Z"⟩ : MethodName) (head1 (Jvm.Cond.code (⟨"com/example/vouchpoint/vouchpoint/identity/VerifiedReason", "countsAsVerified", "(Z)Z"⟩ : MethodName) prog_15_method_5_code 2 (some .boolean) :: ws) ({ frames := 0, cells := 0, slots := 0, locals := 0 } : Room)) (fun zz U => zz = #[(.ref a), (.int f)] ∧ Z.Warmed39 U.vm ∧ U.heap = h0) (fun _ _ _ _ _ => True) (fun _ U o U' => ∃ v L, o = .returned v ∧ own_Q_cav Z a f r h0 n0 v U'.heap L ∧ FrameEnd U o U' L ({ frames := 0, cells := 0, slots := 0, locals := 0 } : Room).cells ({ frames := 0, cells := 0, slots := 0, locals := 0 } : Room).slots) := by
  refine MetFree.of_bodySF (plainFor_of_name own_pn1) hisR ?_
  intro p e s m args below meth c s₁ Bd hml0 hP hK
  obtain ⟨rfl, hZ, hh⟩ := hP
  have hx := Bd.exec
  have hby := Bd.bytes
  have hml : c.maxLocals = 2 := hml0
  have hown : s.vm.findClass "com/example/vouchpoint/vouchpoint/identity/VerifiedReason" = some m.cls := findClass_of_methodNamed Bd.named
  have hnm := (name_of_methodNamed Bd.named Bd.method).1
  have X0 : Stand p l e ({ frames := 0, cells := 0, slots := 0, locals := 0 } : Room) s m #[(.ref a), (.int f)] below meth c s₁ [] 0 0 := Stand.of_body Bd
  have e0 : s₁.heap = h0 := by rw [← hh, Bd.state]; rfl
  have N0 := Fr.nil n0
  show own_Go p e below (own_K s (own_Q_cav Z a f r h0 n0) ({ frames := 0, cells := 0, slots := 0, locals := 0 } : Room).cells ({ frames := 0, cells := 0, slots := 0, locals := 0 } : Room).slots) s₁ (entryFrame m #[(.ref a), (.int f)] 2)
  rw [own_ef_cav m a f]
  show own_Go p e below _ s₁ (mkF m 0 #[rv a, iv f] [])
  refine own_st (fun _ k => XS.iloadN X0.here hx rfl (hb hby own_dc_0) rfl k) ?_
  show own_Go p e below _ s₁ (mkF m 1 #[rv a, iv f] [(.int f)])
  by_cases h1 : f = 0
  · refine own_st (fun _ k => XS.ifNo X0.here hx rfl (hb hby own_dc_1) rfl (XT.i0_ne_f h1) k) ?_
    show own_Go p e below _ s₁ (mkF m 4 #[rv a, iv f] [])
    refine own_st (fun _ k => XS.aloadN X0.here hx rfl (hb hby own_dc_4) rfl rfl k) ?_
    show own_Go p e below _ s₁ (mkF m 5 #[rv a, iv f] [(.ref a)])
    obtain ⟨T1, X1, e1, st1⟩ := getF X0 hx hZ hown (host := "") (Or.inl (hw _ (List.mem_of_getElem? (i := 15) rfl))) Via.refl e0 F (g := (mkF m 5 #[rv a, iv f] [(.ref a)])) rfl rfl (hb hby own_dc_5)
    refine own_st st1 ?_
    show own_Go p e below _ T1 (mkF m 8 #[rv a, iv f] [(.int r)])
    by_cases h2 : r = 0
    · refine own_st (fun _ k => XS.ifYes X1.here hx rfl (pc0 := 8) (pc' := 15) rfl (hb hby own_dc_8) rfl (XT.i0_eq_t h2) (by decide) (by decide) k) ?_
      show own_Go p e below _ T1 (mkF m 15 #[rv a, iv f] [])
      refine own_st (fun _ k => XT.iconstV X1.here hx rfl (0 : Int32) (hb hby own_dc_15) (by decide) k) ?_
      show own_Go p e below _ T1 (mkF m 16 #[rv a, iv f] [(.int 0)])
      refine own_retN X1 hx Bd.notSynchronized (t := .boolean) Bd.returns (by simp) (hb hby own_dc_16) (by decide) (by decide) ?_
      rw [e1]
      exact ⟨by simp [h1, h2, nar], N0, rfl⟩
    · refine own_st (fun _ k => XS.ifNo X1.here hx rfl (hb hby own_dc_8) rfl (XT.i0_eq_f h2) k) ?_
      show own_Go p e below _ T1 (mkF m 11 #[rv a, iv f] [])
      refine own_st (fun _ k => XT.iconstV X1.here hx rfl (1 : Int32) (hb hby own_dc_11) (by decide) k) ?_
      show own_Go p e below _ T1 (mkF m 12 #[rv a, iv f] [(.int 1)])
      refine own_st (fun _ k => XS.goto X1.here hx rfl (pc0 := 12) (pc' := 16) rfl (hb hby own_dc_12) (by decide) (by decide) k) ?_
      show own_Go p e below _ T1 (mkF m 16 #[rv a, iv f] [(.int 1)])
      refine own_retN X1 hx Bd.notSynchronized (t := .boolean) Bd.returns (by simp) (hb hby own_dc_16) (by decide) (by decide) ?_
      rw [e1]
      exact ⟨by simp [h1, h2, nar], N0, rfl⟩
  · refine own_st (fun _ k => XS.ifYes X0.here hx rfl (pc0 := 1) (pc' := 11) rfl (hb hby own_dc_1) rfl (XT.i0_ne_t h1) (by decide) (by decide) k) ?_
    show own_Go p e below _ s₁ (mkF m 11 #[rv a, iv f] [])
    refine own_st (fun _ k => XT.iconstV X0.here hx rfl (1 : Int32) (hb hby own_dc_11) (by decide) k) ?_
    show own_Go p e below _ s₁ (mkF m 12 #[rv a, iv f] [(.int 1)])
    refine own_st (fun _ k => XS.goto X0.here hx rfl (pc0 := 12) (pc' := 16) rfl (hb hby own_dc_12) (by decide) (by decide) k) ?_
    show own_Go p e below _ s₁ (mkF m 16 #[rv a, iv f] [(.int 1)])
    refine own_retN X0 hx Bd.notSynchronized (t := .boolean) Bd.returns (by simp) (hb hby own_dc_16) (by decide) (by decide) ?_
    rw [e0]
    exact ⟨by simp [h1, nar], N0, rfl⟩
theorem own_rem9 (x : Int32) : ∃ k : Nat, k < 9 ∧ (x &&& (2147483647 : Int32)) % (9 : Int32) = Int32.ofNat k := by
  have e1 : (x &&& (2147483647 : Int32)).toInt = x.toInt % 2 ^ 31 := Jvm.Kit.i32_mask x 2147483647 (k := 31) (by decide) (by decide)
  have e2 : ((x &&& (2147483647 : Int32)) % (9 : Int32)).toInt = (x &&& (2147483647 : Int32)).toInt.tmod 9 := by rw [Int32.toInt_mod]; rfl
  refine ⟨(x.toInt % 2 ^ 31 % 9).toNat, by omega, ?_⟩
  apply Int32.toInt_inj.mp
  rw [e2, e1, Int.tmod_eq_emod_of_nonneg (by omega), Int32.toInt_ofNat_of_lt (by omega)]
  omega
theorem own_cases9 (x : Int32) : ∃ i : Int32, (x &&& (2147483647 : Int32)) % (9 : Int32) = i ∧ (i = 0 ∨ i = 1 ∨ i = 2 ∨ i = 3 ∨ i = 4 ∨ i = 5 ∨ i = 6 ∨ i = 7 ∨ i = 8) := by
  obtain ⟨k, hk, e⟩ := own_rem9 x
  refine ⟨_, e, ?_⟩
  have hk' : k = 0 ∨ k = 1 ∨ k = 2 ∨ k = 3 ∨ k = 4 ∨ k = 5 ∨ k = 6 ∨ k = 7 ∨ k = 8 := by omega
  rcases hk' with rfl | rfl | rfl | rfl | rfl | rfl | rfl | rfl | rfl <;> decide
theorem own_ef_law (m : MethodId) (x0 : Int32) (x1 : Int32) : entryFrame m #[(.int x0), (.int x1)] maxLocals = mkF m 0 #[.val (.int x0), .val (.int x1), .unset, .unset, .unset, .unset] [] := by first | (simp [entryFrame, mkF, argsToLocals, Value.category, maxLocals]; done) | rfl
def own_Q_law (Z : State) (p1 : Int32) (p2 : Int32) (w_SKIPPED : Addr) (w_TRUSTED : Addr) (w_UNVERIFIABLE : Addr) (w_DISABLED : Addr) (w_ADMINISTRATIVE : Addr) (w_IMPORT : Addr) (w_COMPLETED : Addr) (w_IMPLICIT : Addr) (w_PENDING : Addr) (h0 : Heap) (n0 : Nat) (v : Option Value) (h : Heap) (L : List Loc) : Prop := v = some (.int 1) ∧ Fr n0 L
set_option maxRecDepth 65536 in
set_option maxHeartbeats 40000000 in
theorem own_rm_law (l : Launch) (Z : State) (a0 : Array Value) (hw : ∀ d ∈ tables_1, d.before a0 Z = true) (ws : List Jvm.Cond) (p1 : Int32) (p2 : Int32) (w_SKIPPED : Addr) (w_TRUSTED : Addr) (w_UNVERIFIABLE : Addr) (w_DISABLED : Addr) (w_ADMINISTRATIVE : Addr) (w_IMPORT : Addr) (w_COMPLETED : Addr) (w_IMPLICIT : Addr) (w_PENDING : Addr) (h0 : Heap) (n0 : Nat) (Z0 : n0 ≤ h0.size) (S_SKIPPED : Sta Z h0 "com/example/vouchpoint/vouchpoint/identity/VerifiedReason" "SKIPPED" "Lcom/example/vouchpoint/vouchpoint/identity/VerifiedReason;" (.ref w_SKIPPED)) (S_TRUSTED : Sta Z h0 "com/example/vouchpoint/vouchpoint/identity/VerifiedReason" "TRUSTED" "Lcom/example/vouchpoint/vouchpoint/identity/VerifiedReason;" (.ref w_TRUSTED)) (S_UNVERIFIABLE : Sta Z h0 "com/example/vouchpoint/vouchpoint/identity/VerifiedReason" "UNVERIFIABLE" "Lcom/example/vouchpoint/vouchpoint/identity/VerifiedReason;" (.ref w_UNVERIFIABLE)) (S_DISABLED : Sta Z h0 "com/example/vouchpoint/vouchpoint/identity/VerifiedReason" "DISABLED" "Lcom/example/vouchpoint/vouchpoint/identity/VerifiedReason;" (.ref w_DISABLED)) (S_ADMINISTRATIVE : Sta Z h0 "com/example/vouchpoint/vouchpoint/identity/VerifiedReason" "ADMINISTRATIVE" "Lcom/example/vouchpoint/vouchpoint/identity/VerifiedReason;" (.ref w_ADMINISTRATIVE)) (S_IMPORT : Sta Z h0 "com/example/vouchpoint/vouchpoint/identity/VerifiedReason" "IMPORT" "Lcom/example/vouchpoint/vouchpoint/identity/VerifiedReason;" (.ref w_IMPORT)) (S_COMPLETED : Sta Z h0 "com/example/vouchpoint/vouchpoint/identity/VerifiedReason" "COMPLETED" "Lcom/example/vouchpoint/vouchpoint/identity/VerifiedReason;" (.ref w_COMPLETED)) (S_IMPLICIT : Sta Z h0 "com/example/vouchpoint/vouchpoint/identity/VerifiedReason" "IMPLICIT" "Lcom/example/vouchpoint/vouchpoint/identity/VerifiedReason;" (.ref w_IMPLICIT)) (S_PENDING : Sta Z h0 "com/example/vouchpoint/vouchpoint/identity/VerifiedReason" "PENDING" "Lcom/example/vouchpoint/vouchpoint/identity/VerifiedReason;" (.ref w_PENDING)) (E_SKIPPED : Exa Z h0 w_SKIPPED "com/example/vouchpoint/vouchpoint/identity/VerifiedReason") (E_TRUSTED : Exa Z h0 w_TRUSTED "com/example/vouchpoint/vouchpoint/identity/VerifiedReason") (E_UNVERIFIABLE : Exa Z h0 w_UNVERIFIABLE "com/example/vouchpoint/vouchpoint/identity/VerifiedReason") (E_DISABLED : Exa Z h0 w_DISABLED "com/example/vouchpoint/vouchpoint/identity/VerifiedReason") (E_ADMINISTRATIVE : Exa Z h0 w_ADMINISTRATIVE "com/example/vouchpoint/vouchpoint/identity/VerifiedReason") (E_IMPORT : Exa Z h0 w_IMPORT "com/example/vouchpoint/vouchpoint/identity/VerifiedReason") (E_COMPLETED : Exa Z h0 w_COMPLETED "com/example/vouchpoint/vouchpoint/identity/VerifiedReason") (E_IMPLICIT : Exa Z h0 w_IMPLICIT "com/example/vouchpoint/vouchpoint/identity/VerifiedReason") (E_PENDING : Exa Z h0 w_PENDING "com/example/vouchpoint/vouchpoint/identity/VerifiedReason") (F_SKIPPED : Fld Z h0 w_SKIPPED "com/example/vouchpoint/vouchpoint/identity/VerifiedReason" "verifiedRegardlessOfFlag" "Z" (.int (1 : Int32))) (F_TRUSTED : Fld Z h0 w_TRUSTED "com/example/vouchpoint/vouchpoint/identity/VerifiedReason" "verifiedRegardlessOfFlag" "Z" (.int (1 : Int32))) (F_UNVERIFIABLE : Fld Z h0 w_UNVERIFIABLE "com/example/vouchpoint/vouchpoint/identity/VerifiedReason" "verifiedRegardlessOfFlag" "Z" (.int (1 : Int32))) (F_DISABLED : Fld Z h0 w_DISABLED "com/example/vouchpoint/vouchpoint/identity/VerifiedReason" "verifiedRegardlessOfFlag" "Z" (.int (1 : Int32))) (F_ADMINISTRATIVE : Fld Z h0 w_ADMINISTRATIVE "com/example/vouchpoint/vouchpoint/identity/VerifiedReason" "verifiedRegardlessOfFlag" "Z" (.int (1 : Int32))) (F_IMPORT : Fld Z h0 w_IMPORT "com/example/vouchpoint/vouchpoint/identity/VerifiedReason" "verifiedRegardlessOfFlag" "Z" (.int (1 : Int32))) (F_COMPLETED : Fld Z h0 w_COMPLETED "com/example/vouchpoint/vouchpoint/identity/VerifiedReason" "verifiedRegardlessOfFlag" "Z" (.int (0 : Int32))) (F_IMPLICIT : Fld Z h0 w_IMPLICIT "com/example/vouchpoint/vouchpoint/identity/VerifiedReason" "verifiedRegardlessOfFlag" "Z" (.int (0 : Int32))) (F_PENDING : Fld Z h0 w_PENDING "com/example/vouchpoint/vouchpoint/identity/VerifiedReason" "verifiedRegardlessOfFlag" "Z" (.int (0 : Int32))) :
    MetFree l x (head1 (Jvm.Cond.code x code maxLocals ret :: ws) room_1) (fun zz U => zz = #[(.int p1), (.int p2)] ∧ Z.Warmed39 U.vm ∧ U.heap = h0) (fun _ _ _ _ _ => True) (fun _ U o U' => ∃ v L, o = .returned v ∧ own_Q_law Z p1 p2 w_SKIPPED w_TRUSTED w_UNVERIFIABLE w_DISABLED w_ADMINISTRATIVE w_IMPORT w_COMPLETED w_IMPLICIT w_PENDING h0 n0 v U'.heap L ∧ FrameEnd U o U' L 0 0) := by
  refine MetFree.of_bodySF (plainFor_of_name own_pn0) hisR ?_
  intro p e s m args below meth c s₁ Bd hml0 hP hK
  obtain ⟨rfl, hZ, hh⟩ := hP
  have hx := Bd.exec
  have hby := Bd.bytes
  have hml : c.maxLocals = 6 := hml0
  have hown : s.vm.findClass "com/example/vouchpoint/vouchpoint/identity/VerifiedReasonCountsAsVerifiedPinLaw" = some m.cls := findClass_of_methodNamed Bd.named
  have hnm := (name_of_methodNamed Bd.named Bd.method).1
  have X0 : Stand p l e room_1 s m #[(.int p1), (.int p2)] below meth c s₁ [] 0 0 := Stand.of_body Bd
  have e0 : s₁.heap = h0 := by rw [← hh, Bd.state]; rfl
  have N0 := Fr.nil n0
  show own_Go p e below (own_K s (own_Q_law Z p1 p2 w_SKIPPED w_TRUSTED w_UNVERIFIABLE w_DISABLED w_ADMINISTRATIVE w_IMPORT w_COMPLETED w_IMPLICIT w_PENDING h0 n0) 0 0) s₁ (entryFrame m #[(.int p1), (.int p2)] maxLocals)
  rw [own_ef_law m p1 p2]
  show own_Go p e below _ s₁ (mkF m 0 #[iv p1, iv p2, .unset, .unset, .unset, .unset] [])
  obtain ⟨i, hi, hc⟩ := own_cases9 p1
  have EE : Exa Z h0 (own_pick w_SKIPPED w_TRUSTED w_UNVERIFIABLE w_DISABLED w_ADMINISTRATIVE w_IMPORT w_COMPLETED w_IMPLICIT w_PENDING i) "com/example/vouchpoint/vouchpoint/identity/VerifiedReason" := by
    rcases hc with rfl | rfl | rfl | rfl | rfl | rfl | rfl | rfl | rfl <;> simp only [own_pick] <;> first | exact E_SKIPPED | exact E_TRUSTED | exact E_UNVERIFIABLE | exact E_DISABLED | exact E_ADMINISTRATIVE | exact E_IMPORT | exact E_COMPLETED | exact E_IMPLICIT | exact E_PENDING
  have FF : Fld Z h0 (own_pick w_SKIPPED w_TRUSTED w_UNVERIFIABLE w_DISABLED w_ADMINISTRATIVE w_IMPORT w_COMPLETED w_IMPLICIT w_PENDING i) "com/example/vouchpoint/vouchpoint/identity/VerifiedReason" "verifiedRegardlessOfFlag" "Z" (.int (if (5 : Int32) < i then (0 : Int32) else (1 : Int32))) := by
    rcases hc with rfl | rfl | rfl | rfl | rfl | rfl | rfl | rfl | rfl <;> simp only [own_pick] <;> first | exact F_SKIPPED | exact F_TRUSTED | exact F_UNVERIFIABLE | exact F_DISABLED | exact F_ADMINISTRATIVE | exact F_IMPORT | exact F_COMPLETED | exact F_IMPLICIT | exact F_PENDING
  refine own_st (fun _ k => XS.iloadN X0.here hx rfl (hb hby at_0) rfl k) ?_
  show own_Go p e below _ s₁ (mkF m 1 #[iv p1, iv p2, .unset, .unset, .unset, .unset] [(.int p1)])
  refine own_st (fun _ k => Jvm.Stand.ldcI X0 hx hown (mvT hZ (hw _ (List.mem_of_getElem? (i := 0) rfl))) rfl (hb hby at_1) k) ?_
  show own_Go p e below _ s₁ (mkF m 3 #[iv p1, iv p2, .unset, .unset, .unset, .unset] [(.int 2147483647), (.int p1)])
  refine own_st (fun _ k => XS.iand X0.here hx rfl (hb hby at_3) rfl k) ?_
  show own_Go p e below _ s₁ (mkF m 4 #[iv p1, iv p2, .unset, .unset, .unset, .unset] [(.int (p1 &&& 2147483647))])
  refine own_st (fun _ k => XT.bipushV X0.here hx rfl (9 : Int32) (hb hby at_4) (by decide) k) ?_
  show own_Go p e below _ s₁ (mkF m 6 #[iv p1, iv p2, .unset, .unset, .unset, .unset] [(.int 9), (.int (p1 &&& 2147483647))])
  refine own_st (fun _ k => iremM X0 hx rfl (hb hby at_6) rfl (by decide) k) ?_
  show own_Go p e below _ s₁ (mkF m 7 #[iv p1, iv p2, .unset, .unset, .unset, .unset] [(.int ((p1 &&& 2147483647) % 9))])
  rw [hi]
  show own_Go p e below _ s₁ (mkF m 7 #[iv p1, iv p2, .unset, .unset, .unset, .unset] [(.int i)])
  refine own_st (fun _ k => XS.istoreN X0.here hx rfl (hb hby at_7) rfl (l' := #[iv p1, iv p2, iv i, .unset, .unset, .unset]) rfl k) ?_
  show own_Go p e below _ s₁ (mkF m 8 #[iv p1, iv p2, iv i, .unset, .unset, .unset] [])
  refine own_st (fun _ k => XS.iloadN X0.here hx rfl (hb hby at_8) rfl k) ?_
  show own_Go p e below _ s₁ (mkF m 9 #[iv p1, iv p2, iv i, .unset, .unset, .unset] [(.int p2)])
  refine own_st (fun _ k => XT.iconstV X0.here hx rfl (1 : Int32) (hb hby at_9) (by decide) k) ?_
  show own_Go p e below _ s₁ (mkF m 10 #[iv p1, iv p2, iv i, .unset, .unset, .unset] [(.int 1), (.int p2)])
  refine own_st (fun _ k => XS.iand X0.here hx rfl (hb hby at_10) rfl k) ?_
  show own_Go p e below _ s₁ (mkF m 11 #[iv p1, iv p2, iv i, .unset, .unset, .unset] [(.int (p2 &&& 1))])
  by_cases hf : (p2 &&& (1 : Int32)) = 0
  · refine own_st (fun _ k => XS.ifYes X0.here hx rfl (pc0 := 11) (pc' := 18) rfl (hb hby at_11) rfl (XT.i0_eq_t hf) (by decide) (by decide) k) ?_
    show own_Go p e below _ s₁ (mkF m 18 #[iv p1, iv p2, iv i, .unset, .unset, .unset] [])
    refine own_st (fun _ k => XT.iconstV X0.here hx rfl (0 : Int32) (hb hby at_18) (by decide) k) ?_
    show own_Go p e below _ s₁ (mkF m 19 #[iv p1, iv p2, iv i, .unset, .unset, .unset] [(.int 0)])
    refine own_st (fun _ k => XS.istoreN X0.here hx rfl (hb hby at_19) rfl (l' := #[iv p1, iv p2, iv i, iv 0, .unset, .unset]) rfl k) ?_
    show own_Go p e below _ s₁ (mkF m 20 #[iv p1, iv p2, iv i, iv 0, .unset, .unset] [])
    refine own_st (fun _ k => XS.iloadN X0.here hx rfl (hb hby at_20) rfl k) ?_
    show own_Go p e below _ s₁ (mkF m 21 #[iv p1, iv p2, iv i, iv 0, .unset, .unset] [(.int i)])
    refine own_st (fun _ k => XT.iconstV X0.here hx rfl (5 : Int32) (hb hby at_21) (by decide) k) ?_
    show own_Go p e below _ s₁ (mkF m 22 #[iv p1, iv p2, iv i, iv 0, .unset, .unset] [(.int 5), (.int i)])
    by_cases hg : (5 : Int32) < i
    · refine own_st (fun _ k => XS.icmpYes X0.here hx rfl (pc0 := 22) (pc' := 29) rfl (hb hby at_22) rfl (XT.ii_gt_t hg) (by decide) (by decide) k) ?_
      show own_Go p e below _ s₁ (mkF m 29 #[iv p1, iv p2, iv i, iv 0, .unset, .unset] [])
      refine own_st (fun _ k => XT.iconstV X0.here hx rfl (0 : Int32) (hb hby at_29) (by decide) k) ?_
      show own_Go p e below _ s₁ (mkF m 30 #[iv p1, iv p2, iv i, iv 0, .unset, .unset] [(.int 0)])
      refine own_st (fun _ k => XS.istore X0.here hx rfl (hb hby at_30) rfl (l' := #[iv p1, iv p2, iv i, iv 0, iv 0, .unset]) rfl k) ?_
      show own_Go p e below _ s₁ (mkF m 32 #[iv p1, iv p2, iv i, iv 0, iv 0, .unset] [])
      refine own_st (fun _ k => XS.iloadN X0.here hx rfl (hb hby at_32) rfl k) ?_
      show own_Go p e below _ s₁ (mkF m 33 #[iv p1, iv p2, iv i, iv 0, iv 0, .unset] [(.int 0)])
      refine own_st (fun _ k => XS.ifNo X0.here hx rfl (hb hby at_33) rfl (XT.i0_ne_f (by decide)) k) ?_
      show own_Go p e below _ s₁ (mkF m 36 #[iv p1, iv p2, iv i, iv 0, iv 0, .unset] [])
      refine own_st (fun _ k => XS.iload X0.here hx rfl (hb hby at_36) rfl k) ?_
      show own_Go p e below _ s₁ (mkF m 38 #[iv p1, iv p2, iv i, iv 0, iv 0, .unset] [(.int 0)])
      refine own_st (fun _ k => XS.ifYes X0.here hx rfl (pc0 := 38) (pc' := 45) rfl (hb hby at_38) rfl (XT.i0_eq_t (by decide)) (by decide) (by decide) k) ?_
      show own_Go p e below _ s₁ (mkF m 45 #[iv p1, iv p2, iv i, iv 0, iv 0, .unset] [])
      refine own_st (fun _ k => XT.iconstV X0.here hx rfl (0 : Int32) (hb hby at_45) (by decide) k) ?_
      show own_Go p e below _ s₁ (mkF m 46 #[iv p1, iv p2, iv i, iv 0, iv 0, .unset] [(.int 0)])
      refine own_st (fun _ k => XS.istore X0.here hx rfl (hb hby at_46) rfl (l' := #[iv p1, iv p2, iv i, iv 0, iv 0, iv 0]) rfl k) ?_
      show own_Go p e below _ s₁ (mkF m 48 #[iv p1, iv p2, iv i, iv 0, iv 0, iv 0] [])
      refine own_st (fun _ k => XS.iloadN X0.here hx rfl (hb hby at_48) rfl k) ?_
      show own_Go p e below _ s₁ (mkF m 49 #[iv p1, iv p2, iv i, iv 0, iv 0, iv 0] [(.int i)])
      obtain ⟨_, _, ⟨T1, L1, k1, n1⟩, -, X1, ⟨Lc1, hQ1, l1, y1, z1⟩, st1⟩ := Jvm.LawKit.callS X0 hx (y := (⟨"com/example/vouchpoint/vouchpoint/identity/VerifiedReasonCountsAsVerifiedPinLaw", "pick", "(I)Lcom/example/vouchpoint/vouchpoint/identity/VerifiedReason;"⟩ : MethodName)) hown (mvT hZ (hw _ (List.mem_of_getElem? (i := 1) rfl))) (mvT hZ (hw _ (List.mem_of_getElem? (i := 2) rfl))) (mvT hZ (hw _ (List.mem_of_getElem? (i := 3) rfl))) (mvT hZ (hw _ (List.mem_of_getElem? (i := 4) rfl))) (by decide) (backOf (W := 0) (own_rm_pick l Z a0 hw [] i w_SKIPPED w_TRUSTED w_UNVERIFIABLE w_DISABLED w_ADMINISTRATIVE w_IMPORT w_COMPLETED w_IMPLICIT w_PENDING h0 n0 Z0 S_SKIPPED S_TRUSTED S_UNVERIFIABLE S_DISABLED S_ADMINISTRATIVE S_IMPORT S_COMPLETED S_IMPLICIT S_PENDING) hZ (hw _ (List.mem_of_getElem? (i := 4) rfl)) (hw _ (List.mem_of_getElem? (i := 3) rfl)) (by decide) (by decide)) (g := (mkF m 49 #[iv p1, iv p2, iv i, iv 0, iv 0, iv 0] [(.int i)])) rfl (by rw [hml]; rfl) (argsL := [(.int i)]) (rest := []) (lenOf own_pd0 rfl) rfl (by show 2 * 0 + _ ≤ _; exact Nat.le_of_eq rfl) (hb hby at_49) (fun _ _ => ⟨rfl, e0, (by decide : 0 + 0 ≤ _), (by decide : 0 + 0 ≤ _)⟩)
      dsimp only [Pt.U, Pt.locs, Pt.cells, Pt.slots] at X1 l1 y1 z1 st1 hQ1
      subst l1 y1 z1
      obtain ⟨rfl, N1, eh1⟩ := hQ1
      have M1 := Fr.app N0 N1
      refine own_st st1 ?_
      show own_Go p e below _ T1 (mkF m 52 #[iv p1, iv p2, iv i, iv 0, iv 0, iv 0] [(.ref (own_pick w_SKIPPED w_TRUSTED w_UNVERIFIABLE w_DISABLED w_ADMINISTRATIVE w_IMPORT w_COMPLETED w_IMPLICIT w_PENDING i))])
      refine own_st (fun _ k => XS.iloadN X1.here hx rfl (hb hby at_52) rfl k) ?_
      show own_Go p e below _ T1 (mkF m 53 #[iv p1, iv p2, iv i, iv 0, iv 0, iv 0] [(.int 0), (.ref (own_pick w_SKIPPED w_TRUSTED w_UNVERIFIABLE w_DISABLED w_ADMINISTRATIVE w_IMPORT w_COMPLETED w_IMPLICIT w_PENDING i))])
      obtain ⟨cq2, kq2, q2a, q2b, q2c⟩ := isOf hZ eh1 EE
      obtain ⟨_, _, ⟨T2, L2, k2, n2⟩, -, X2, ⟨Lc2, hQ2, l2, y2, z2⟩, st2⟩ := X1.virtualBack hx (y := (⟨"com/example/vouchpoint/vouchpoint/identity/VerifiedReason", "countsAsVerified", "(Z)Z"⟩ : MethodName)) (z := (⟨"com/example/vouchpoint/vouchpoint/identity/VerifiedReason", "countsAsVerified", "(Z)Z"⟩ : MethodName)) hown (mvT hZ (hw _ (List.mem_of_getElem? (i := 8) rfl))) (mvT hZ (hw _ (List.mem_of_getElem? (i := 9) rfl))) (notFace_of_selects (args := #[]) (mvT hZ (hw _ (List.mem_of_getElem? (i := 11) rfl)))) (mvT hZ (hw _ (List.mem_of_getElem? (i := 11) rfl))) (mvT hZ (hw _ (List.mem_of_getElem? (i := 10) rfl))) (by decide) (backOf (W := 0) (own_rm_cav l Z a0 hw [] (own_pick w_SKIPPED w_TRUSTED w_UNVERIFIABLE w_DISABLED w_ADMINISTRATIVE w_IMPORT w_COMPLETED w_IMPLICIT w_PENDING i) (0 : Int32) (if (5 : Int32) < i then (0 : Int32) else (1 : Int32)) h0 n0 Z0 FF) hZ (hw _ (List.mem_of_getElem? (i := 12) rfl)) (hw _ (List.mem_of_getElem? (i := 6) rfl)) (by decide) (by decide)) q2a q2c (g := (mkF m 53 #[iv p1, iv p2, iv i, iv 0, iv 0, iv 0] [(.int 0), (.ref (own_pick w_SKIPPED w_TRUSTED w_UNVERIFIABLE w_DISABLED w_ADMINISTRATIVE w_IMPORT w_COMPLETED w_IMPLICIT w_PENDING i))])) rfl (by rw [hml]; rfl) (Steps.refl _) (argsL := [(.int (0 : Int32))]) (rest := []) (lenOf own_pd1 rfl) rfl (by show 2 * 0 + _ ≤ _; exact Nat.le_of_eq rfl) (hb hby at_53) (fun _ _ => ⟨rfl, eh1, (by decide : 0 + 0 ≤ _), (by decide : 0 + 0 ≤ _)⟩)
      dsimp only [Pt.U, Pt.locs, Pt.cells, Pt.slots] at X2 l2 y2 z2 st2 hQ2
      subst l2 y2 z2
      obtain ⟨rfl, N2, eh2⟩ := hQ2
      have M2 := Fr.app M1 N2
      refine own_tr st2 ?_
      show own_Go p e below _ T2 (mkF m 56 #[iv p1, iv p2, iv i, iv 0, iv 0, iv 0] [(.int (if 0 = 0 then (if (if 5 < i then 0 else 1) = 0 then 0 else 1) else 1))])
      refine own_st (fun _ k => XS.iload X2.here hx rfl (hb hby at_56) rfl k) ?_
      show own_Go p e below _ T2 (mkF m 58 #[iv p1, iv p2, iv i, iv 0, iv 0, iv 0] [(.int 0), (.int (if 0 = 0 then (if (if 5 < i then 0 else 1) = 0 then 0 else 1) else 1))])
      refine own_st (fun _ k => XS.icmpNo X2.here hx rfl (hb hby at_58) rfl (XT.ii_ne_f (by simp [hg])) k) ?_
      show own_Go p e below _ T2 (mkF m 61 #[iv p1, iv p2, iv i, iv 0, iv 0, iv 0] [])
      refine own_st (fun _ k => XT.iconstV X2.here hx rfl (1 : Int32) (hb hby at_61) (by decide) k) ?_
      show own_Go p e below _ T2 (mkF m 62 #[iv p1, iv p2, iv i, iv 0, iv 0, iv 0] [(.int 1)])
      refine own_st (fun _ k => XS.goto X2.here hx rfl (pc0 := 62) (pc' := 66) rfl (hb hby at_62) (by decide) (by decide) k) ?_
      show own_Go p e below _ T2 (mkF m 66 #[iv p1, iv p2, iv i, iv 0, iv 0, iv 0] [(.int 1)])
      refine own_retN X2 hx Bd.notSynchronized (t := .boolean) Bd.returns (by simp) (hb hby at_66) (by decide) (by decide) ?_
      rw [eh2]
      exact ⟨rfl, M2⟩
    · refine own_st (fun _ k => XS.icmpNo X0.here hx rfl (hb hby at_22) rfl (XT.ii_gt_f hg) k) ?_
      show own_Go p e below _ s₁ (mkF m 25 #[iv p1, iv p2, iv i, iv 0, .unset, .unset] [])
      refine own_st (fun _ k => XT.iconstV X0.here hx rfl (1 : Int32) (hb hby at_25) (by decide) k) ?_
      show own_Go p e below _ s₁ (mkF m 26 #[iv p1, iv p2, iv i, iv 0, .unset, .unset] [(.int 1)])
      refine own_st (fun _ k => XS.goto X0.here hx rfl (pc0 := 26) (pc' := 30) rfl (hb hby at_26) (by decide) (by decide) k) ?_
      show own_Go p e below _ s₁ (mkF m 30 #[iv p1, iv p2, iv i, iv 0, .unset, .unset] [(.int 1)])
      refine own_st (fun _ k => XS.istore X0.here hx rfl (hb hby at_30) rfl (l' := #[iv p1, iv p2, iv i, iv 0, iv 1, .unset]) rfl k) ?_
      show own_Go p e below _ s₁ (mkF m 32 #[iv p1, iv p2, iv i, iv 0, iv 1, .unset] [])
      refine own_st (fun _ k => XS.iloadN X0.here hx rfl (hb hby at_32) rfl k) ?_
      show own_Go p e below _ s₁ (mkF m 33 #[iv p1, iv p2, iv i, iv 0, iv 1, .unset] [(.int 0)])
      refine own_st (fun _ k => XS.ifNo X0.here hx rfl (hb hby at_33) rfl (XT.i0_ne_f (by decide)) k) ?_
      show own_Go p e below _ s₁ (mkF m 36 #[iv p1, iv p2, iv i, iv 0, iv 1, .unset] [])
      refine own_st (fun _ k => XS.iload X0.here hx rfl (hb hby at_36) rfl k) ?_
      show own_Go p e below _ s₁ (mkF m 38 #[iv p1, iv p2, iv i, iv 0, iv 1, .unset] [(.int 1)])
      refine own_st (fun _ k => XS.ifNo X0.here hx rfl (hb hby at_38) rfl (XT.i0_eq_f (by decide)) k) ?_
      show own_Go p e below _ s₁ (mkF m 41 #[iv p1, iv p2, iv i, iv 0, iv 1, .unset] [])
      refine own_st (fun _ k => XT.iconstV X0.here hx rfl (1 : Int32) (hb hby at_41) (by decide) k) ?_
      show own_Go p e below _ s₁ (mkF m 42 #[iv p1, iv p2, iv i, iv 0, iv 1, .unset] [(.int 1)])
      refine own_st (fun _ k => XS.goto X0.here hx rfl (pc0 := 42) (pc' := 46) rfl (hb hby at_42) (by decide) (by decide) k) ?_
      show own_Go p e below _ s₁ (mkF m 46 #[iv p1, iv p2, iv i, iv 0, iv 1, .unset] [(.int 1)])
      refine own_st (fun _ k => XS.istore X0.here hx rfl (hb hby at_46) rfl (l' := #[iv p1, iv p2, iv i, iv 0, iv 1, iv 1]) rfl k) ?_
      show own_Go p e below _ s₁ (mkF m 48 #[iv p1, iv p2, iv i, iv 0, iv 1, iv 1] [])
      refine own_st (fun _ k => XS.iloadN X0.here hx rfl (hb hby at_48) rfl k) ?_
      show own_Go p e below _ s₁ (mkF m 49 #[iv p1, iv p2, iv i, iv 0, iv 1, iv 1] [(.int i)])
      obtain ⟨_, _, ⟨T4, L4, k4, n4⟩, -, X4, ⟨Lc4, hQ4, l4, y4, z4⟩, st4⟩ := Jvm.LawKit.callS X0 hx (y := (⟨"com/example/vouchpoint/vouchpoint/identity/VerifiedReasonCountsAsVerifiedPinLaw", "pick", "(I)Lcom/example/vouchpoint/vouchpoint/identity/VerifiedReason;"⟩ : MethodName)) hown (mvT hZ (hw _ (List.mem_of_getElem? (i := 1) rfl))) (mvT hZ (hw _ (List.mem_of_getElem? (i := 2) rfl))) (mvT hZ (hw _ (List.mem_of_getElem? (i := 3) rfl))) (mvT hZ (hw _ (List.mem_of_getElem? (i := 4) rfl))) (by decide) (backOf (W := 0) (own_rm_pick l Z a0 hw [] i w_SKIPPED w_TRUSTED w_UNVERIFIABLE w_DISABLED w_ADMINISTRATIVE w_IMPORT w_COMPLETED w_IMPLICIT w_PENDING h0 n0 Z0 S_SKIPPED S_TRUSTED S_UNVERIFIABLE S_DISABLED S_ADMINISTRATIVE S_IMPORT S_COMPLETED S_IMPLICIT S_PENDING) hZ (hw _ (List.mem_of_getElem? (i := 4) rfl)) (hw _ (List.mem_of_getElem? (i := 3) rfl)) (by decide) (by decide)) (g := (mkF m 49 #[iv p1, iv p2, iv i, iv 0, iv 1, iv 1] [(.int i)])) rfl (by rw [hml]; rfl) (argsL := [(.int i)]) (rest := []) (lenOf own_pd0 rfl) rfl (by show 2 * 0 + _ ≤ _; exact Nat.le_of_eq rfl) (hb hby at_49) (fun _ _ => ⟨rfl, e0, (by decide : 0 + 0 ≤ _), (by decide : 0 + 0 ≤ _)⟩)
      dsimp only [Pt.U, Pt.locs, Pt.cells, Pt.slots] at X4 l4 y4 z4 st4 hQ4
      subst l4 y4 z4
      obtain ⟨rfl, N4, eh4⟩ := hQ4
      have M4 := Fr.app N0 N4
      refine own_st st4 ?_
      show own_Go p e below _ T4 (mkF m 52 #[iv p1, iv p2, iv i, iv 0, iv 1, iv 1] [(.ref (own_pick w_SKIPPED w_TRUSTED w_UNVERIFIABLE w_DISABLED w_ADMINISTRATIVE w_IMPORT w_COMPLETED w_IMPLICIT w_PENDING i))])
      refine own_st (fun _ k => XS.iloadN X4.here hx rfl (hb hby at_52) rfl k) ?_
      show own_Go p e below _ T4 (mkF m 53 #[iv p1, iv p2, iv i, iv 0, iv 1, iv 1] [(.int 0), (.ref (own_pick w_SKIPPED w_TRUSTED w_UNVERIFIABLE w_DISABLED w_ADMINISTRATIVE w_IMPORT w_COMPLETED w_IMPLICIT w_PENDING i))])
      obtain ⟨cq5, kq5, q5a, q5b, q5c⟩ := isOf hZ eh4 EE
      obtain ⟨_, _, ⟨T5, L5, k5, n5⟩, -, X5, ⟨Lc5, hQ5, l5, y5, z5⟩, st5⟩ := X4.virtualBack hx (y := (⟨"com/example/vouchpoint/vouchpoint/identity/VerifiedReason", "countsAsVerified", "(Z)Z"⟩ : MethodName)) (z := (⟨"com/example/vouchpoint/vouchpoint/identity/VerifiedReason", "countsAsVerified", "(Z)Z"⟩ : MethodName)) hown (mvT hZ (hw _ (List.mem_of_getElem? (i := 8) rfl))) (mvT hZ (hw _ (List.mem_of_getElem? (i := 9) rfl))) (notFace_of_selects (args := #[]) (mvT hZ (hw _ (List.mem_of_getElem? (i := 11) rfl)))) (mvT hZ (hw _ (List.mem_of_getElem? (i := 11) rfl))) (mvT hZ (hw _ (List.mem_of_getElem? (i := 10) rfl))) (by decide) (backOf (W := 0) (own_rm_cav l Z a0 hw [] (own_pick w_SKIPPED w_TRUSTED w_UNVERIFIABLE w_DISABLED w_ADMINISTRATIVE w_IMPORT w_COMPLETED w_IMPLICIT w_PENDING i) (0 : Int32) (if (5 : Int32) < i then (0 : Int32) else (1 : Int32)) h0 n0 Z0 FF) hZ (hw _ (List.mem_of_getElem? (i := 12) rfl)) (hw _ (List.mem_of_getElem? (i := 6) rfl)) (by decide) (by decide)) q5a q5c (g := (mkF m 53 #[iv p1, iv p2, iv i, iv 0, iv 1, iv 1] [(.int 0), (.ref (own_pick w_SKIPPED w_TRUSTED w_UNVERIFIABLE w_DISABLED w_ADMINISTRATIVE w_IMPORT w_COMPLETED w_IMPLICIT w_PENDING i))])) rfl (by rw [hml]; rfl) (Steps.refl _) (argsL := [(.int (0 : Int32))]) (rest := []) (lenOf own_pd1 rfl) rfl (by show 2 * 0 + _ ≤ _; exact Nat.le_of_eq rfl) (hb hby at_53) (fun _ _ => ⟨rfl, eh4, (by decide : 0 + 0 ≤ _), (by decide : 0 + 0 ≤ _)⟩)
      dsimp only [Pt.U, Pt.locs, Pt.cells, Pt.slots] at X5 l5 y5 z5 st5 hQ5
      subst l5 y5 z5
      obtain ⟨rfl, N5, eh5⟩ := hQ5
      have M5 := Fr.app M4 N5
      refine own_tr st5 ?_
      show own_Go p e below _ T5 (mkF m 56 #[iv p1, iv p2, iv i, iv 0, iv 1, iv 1] [(.int (if 0 = 0 then (if (if 5 < i then 0 else 1) = 0 then 0 else 1) else 1))])
      refine own_st (fun _ k => XS.iload X5.here hx rfl (hb hby at_56) rfl k) ?_
      show own_Go p e below _ T5 (mkF m 58 #[iv p1, iv p2, iv i, iv 0, iv 1, iv 1] [(.int 1), (.int (if 0 = 0 then (if (if 5 < i then 0 else 1) = 0 then 0 else 1) else 1))])
      refine own_st (fun _ k => XS.icmpNo X5.here hx rfl (hb hby at_58) rfl (XT.ii_ne_f (by simp [hg])) k) ?_
      show own_Go p e below _ T5 (mkF m 61 #[iv p1, iv p2, iv i, iv 0, iv 1, iv 1] [])
      refine own_st (fun _ k => XT.iconstV X5.here hx rfl (1 : Int32) (hb hby at_61) (by decide) k) ?_
      show own_Go p e below _ T5 (mkF m 62 #[iv p1, iv p2, iv i, iv 0, iv 1, iv 1] [(.int 1)])
      refine own_st (fun _ k => XS.goto X5.here hx rfl (pc0 := 62) (pc' := 66) rfl (hb hby at_62) (by decide) (by decide) k) ?_
      show own_Go p e below _ T5 (mkF m 66 #[iv p1, iv p2, iv i, iv 0, iv 1, iv 1] [(.int 1)])
      refine own_retN X5 hx Bd.notSynchronized (t := .boolean) Bd.returns (by simp) (hb hby at_66) (by decide) (by decide) ?_
      rw [eh5]
      exact ⟨rfl, M5⟩
  · refine own_st (fun _ k => XS.ifNo X0.here hx rfl (hb hby at_11) rfl (XT.i0_eq_f hf) k) ?_
    show own_Go p e below _ s₁ (mkF m 14 #[iv p1, iv p2, iv i, .unset, .unset, .unset] [])
    refine own_st (fun _ k => XT.iconstV X0.here hx rfl (1 : Int32) (hb hby at_14) (by decide) k) ?_
    show own_Go p e below _ s₁ (mkF m 15 #[iv p1, iv p2, iv i, .unset, .unset, .unset] [(.int 1)])
    refine own_st (fun _ k => XS.goto X0.here hx rfl (pc0 := 15) (pc' := 19) rfl (hb hby at_15) (by decide) (by decide) k) ?_
    show own_Go p e below _ s₁ (mkF m 19 #[iv p1, iv p2, iv i, .unset, .unset, .unset] [(.int 1)])
    refine own_st (fun _ k => XS.istoreN X0.here hx rfl (hb hby at_19) rfl (l' := #[iv p1, iv p2, iv i, iv 1, .unset, .unset]) rfl k) ?_
    show own_Go p e below _ s₁ (mkF m 20 #[iv p1, iv p2, iv i, iv 1, .unset, .unset] [])
    refine own_st (fun _ k => XS.iloadN X0.here hx rfl (hb hby at_20) rfl k) ?_
    show own_Go p e below _ s₁ (mkF m 21 #[iv p1, iv p2, iv i, iv 1, .unset, .unset] [(.int i)])
    refine own_st (fun _ k => XT.iconstV X0.here hx rfl (5 : Int32) (hb hby at_21) (by decide) k) ?_
    show own_Go p e below _ s₁ (mkF m 22 #[iv p1, iv p2, iv i, iv 1, .unset, .unset] [(.int 5), (.int i)])
    by_cases hg : (5 : Int32) < i
    · refine own_st (fun _ k => XS.icmpYes X0.here hx rfl (pc0 := 22) (pc' := 29) rfl (hb hby at_22) rfl (XT.ii_gt_t hg) (by decide) (by decide) k) ?_
      show own_Go p e below _ s₁ (mkF m 29 #[iv p1, iv p2, iv i, iv 1, .unset, .unset] [])
      refine own_st (fun _ k => XT.iconstV X0.here hx rfl (0 : Int32) (hb hby at_29) (by decide) k) ?_
      show own_Go p e below _ s₁ (mkF m 30 #[iv p1, iv p2, iv i, iv 1, .unset, .unset] [(.int 0)])
      refine own_st (fun _ k => XS.istore X0.here hx rfl (hb hby at_30) rfl (l' := #[iv p1, iv p2, iv i, iv 1, iv 0, .unset]) rfl k) ?_
      show own_Go p e below _ s₁ (mkF m 32 #[iv p1, iv p2, iv i, iv 1, iv 0, .unset] [])
      refine own_st (fun _ k => XS.iloadN X0.here hx rfl (hb hby at_32) rfl k) ?_
      show own_Go p e below _ s₁ (mkF m 33 #[iv p1, iv p2, iv i, iv 1, iv 0, .unset] [(.int 1)])
      refine own_st (fun _ k => XS.ifYes X0.here hx rfl (pc0 := 33) (pc' := 41) rfl (hb hby at_33) rfl (XT.i0_ne_t (by decide)) (by decide) (by decide) k) ?_
      show own_Go p e below _ s₁ (mkF m 41 #[iv p1, iv p2, iv i, iv 1, iv 0, .unset] [])
      refine own_st (fun _ k => XT.iconstV X0.here hx rfl (1 : Int32) (hb hby at_41) (by decide) k) ?_
      show own_Go p e below _ s₁ (mkF m 42 #[iv p1, iv p2, iv i, iv 1, iv 0, .unset] [(.int 1)])
      refine own_st (fun _ k => XS.goto X0.here hx rfl (pc0 := 42) (pc' := 46) rfl (hb hby at_42) (by decide) (by decide) k) ?_
      show own_Go p e below _ s₁ (mkF m 46 #[iv p1, iv p2, iv i, iv 1, iv 0, .unset] [(.int 1)])
      refine own_st (fun _ k => XS.istore X0.here hx rfl (hb hby at_46) rfl (l' := #[iv p1, iv p2, iv i, iv 1, iv 0, iv 1]) rfl k) ?_
      show own_Go p e below _ s₁ (mkF m 48 #[iv p1, iv p2, iv i, iv 1, iv 0, iv 1] [])
      refine own_st (fun _ k => XS.iloadN X0.here hx rfl (hb hby at_48) rfl k) ?_
      show own_Go p e below _ s₁ (mkF m 49 #[iv p1, iv p2, iv i, iv 1, iv 0, iv 1] [(.int i)])
      obtain ⟨_, _, ⟨T7, L7, k7, n7⟩, -, X7, ⟨Lc7, hQ7, l7, y7, z7⟩, st7⟩ := Jvm.LawKit.callS X0 hx (y := (⟨"com/example/vouchpoint/vouchpoint/identity/VerifiedReasonCountsAsVerifiedPinLaw", "pick", "(I)Lcom/example/vouchpoint/vouchpoint/identity/VerifiedReason;"⟩ : MethodName)) hown (mvT hZ (hw _ (List.mem_of_getElem? (i := 1) rfl))) (mvT hZ (hw _ (List.mem_of_getElem? (i := 2) rfl))) (mvT hZ (hw _ (List.mem_of_getElem? (i := 3) rfl))) (mvT hZ (hw _ (List.mem_of_getElem? (i := 4) rfl))) (by decide) (backOf (W := 0) (own_rm_pick l Z a0 hw [] i w_SKIPPED w_TRUSTED w_UNVERIFIABLE w_DISABLED w_ADMINISTRATIVE w_IMPORT w_COMPLETED w_IMPLICIT w_PENDING h0 n0 Z0 S_SKIPPED S_TRUSTED S_UNVERIFIABLE S_DISABLED S_ADMINISTRATIVE S_IMPORT S_COMPLETED S_IMPLICIT S_PENDING) hZ (hw _ (List.mem_of_getElem? (i := 4) rfl)) (hw _ (List.mem_of_getElem? (i := 3) rfl)) (by decide) (by decide)) (g := (mkF m 49 #[iv p1, iv p2, iv i, iv 1, iv 0, iv 1] [(.int i)])) rfl (by rw [hml]; rfl) (argsL := [(.int i)]) (rest := []) (lenOf own_pd0 rfl) rfl (by show 2 * 0 + _ ≤ _; exact Nat.le_of_eq rfl) (hb hby at_49) (fun _ _ => ⟨rfl, e0, (by decide : 0 + 0 ≤ _), (by decide : 0 + 0 ≤ _)⟩)
      dsimp only [Pt.U, Pt.locs, Pt.cells, Pt.slots] at X7 l7 y7 z7 st7 hQ7
      subst l7 y7 z7
      obtain ⟨rfl, N7, eh7⟩ := hQ7
      have M7 := Fr.app N0 N7
      refine own_st st7 ?_
      show own_Go p e below _ T7 (mkF m 52 #[iv p1, iv p2, iv i, iv 1, iv 0, iv 1] [(.ref (own_pick w_SKIPPED w_TRUSTED w_UNVERIFIABLE w_DISABLED w_ADMINISTRATIVE w_IMPORT w_COMPLETED w_IMPLICIT w_PENDING i))])
      refine own_st (fun _ k => XS.iloadN X7.here hx rfl (hb hby at_52) rfl k) ?_
      show own_Go p e below _ T7 (mkF m 53 #[iv p1, iv p2, iv i, iv 1, iv 0, iv 1] [(.int 1), (.ref (own_pick w_SKIPPED w_TRUSTED w_UNVERIFIABLE w_DISABLED w_ADMINISTRATIVE w_IMPORT w_COMPLETED w_IMPLICIT w_PENDING i))])
      obtain ⟨cq8, kq8, q8a, q8b, q8c⟩ := isOf hZ eh7 EE
      obtain ⟨_, _, ⟨T8, L8, k8, n8⟩, -, X8, ⟨Lc8, hQ8, l8, y8, z8⟩, st8⟩ := X7.virtualBack hx (y := (⟨"com/example/vouchpoint/vouchpoint/identity/VerifiedReason", "countsAsVerified", "(Z)Z"⟩ : MethodName)) (z := (⟨"com/example/vouchpoint/vouchpoint/identity/VerifiedReason", "countsAsVerified", "(Z)Z"⟩ : MethodName)) hown (mvT hZ (hw _ (List.mem_of_getElem? (i := 8) rfl))) (mvT hZ (hw _ (List.mem_of_getElem? (i := 9) rfl))) (notFace_of_selects (args := #[]) (mvT hZ (hw _ (List.mem_of_getElem? (i := 11) rfl)))) (mvT hZ (hw _ (List.mem_of_getElem? (i := 11) rfl))) (mvT hZ (hw _ (List.mem_of_getElem? (i := 10) rfl))) (by decide) (backOf (W := 0) (own_rm_cav l Z a0 hw [] (own_pick w_SKIPPED w_TRUSTED w_UNVERIFIABLE w_DISABLED w_ADMINISTRATIVE w_IMPORT w_COMPLETED w_IMPLICIT w_PENDING i) (1 : Int32) (if (5 : Int32) < i then (0 : Int32) else (1 : Int32)) h0 n0 Z0 FF) hZ (hw _ (List.mem_of_getElem? (i := 12) rfl)) (hw _ (List.mem_of_getElem? (i := 6) rfl)) (by decide) (by decide)) q8a q8c (g := (mkF m 53 #[iv p1, iv p2, iv i, iv 1, iv 0, iv 1] [(.int 1), (.ref (own_pick w_SKIPPED w_TRUSTED w_UNVERIFIABLE w_DISABLED w_ADMINISTRATIVE w_IMPORT w_COMPLETED w_IMPLICIT w_PENDING i))])) rfl (by rw [hml]; rfl) (Steps.refl _) (argsL := [(.int (1 : Int32))]) (rest := []) (lenOf own_pd1 rfl) rfl (by show 2 * 0 + _ ≤ _; exact Nat.le_of_eq rfl) (hb hby at_53) (fun _ _ => ⟨rfl, eh7, (by decide : 0 + 0 ≤ _), (by decide : 0 + 0 ≤ _)⟩)
      dsimp only [Pt.U, Pt.locs, Pt.cells, Pt.slots] at X8 l8 y8 z8 st8 hQ8
      subst l8 y8 z8
      obtain ⟨rfl, N8, eh8⟩ := hQ8
      have M8 := Fr.app M7 N8
      refine own_tr st8 ?_
      show own_Go p e below _ T8 (mkF m 56 #[iv p1, iv p2, iv i, iv 1, iv 0, iv 1] [(.int (if 1 = 0 then (if (if 5 < i then 0 else 1) = 0 then 0 else 1) else 1))])
      refine own_st (fun _ k => XS.iload X8.here hx rfl (hb hby at_56) rfl k) ?_
      show own_Go p e below _ T8 (mkF m 58 #[iv p1, iv p2, iv i, iv 1, iv 0, iv 1] [(.int 1), (.int (if 1 = 0 then (if (if 5 < i then 0 else 1) = 0 then 0 else 1) else 1))])
      refine own_st (fun _ k => XS.icmpNo X8.here hx rfl (hb hby at_58) rfl (XT.ii_ne_f (by simp [hg])) k) ?_
      show own_Go p e below _ T8 (mkF m 61 #[iv p1, iv p2, iv i, iv 1, iv 0, iv 1] [])
      refine own_st (fun _ k => XT.iconstV X8.here hx rfl (1 : Int32) (hb hby at_61) (by decide) k) ?_
      show own_Go p e below _ T8 (mkF m 62 #[iv p1, iv p2, iv i, iv 1, iv 0, iv 1] [(.int 1)])
      refine own_st (fun _ k => XS.goto X8.here hx rfl (pc0 := 62) (pc' := 66) rfl (hb hby at_62) (by decide) (by decide) k) ?_
      show own_Go p e below _ T8 (mkF m 66 #[iv p1, iv p2, iv i, iv 1, iv 0, iv 1] [(.int 1)])
      refine own_retN X8 hx Bd.notSynchronized (t := .boolean) Bd.returns (by simp) (hb hby at_66) (by decide) (by decide) ?_
      rw [eh8]
      exact ⟨rfl, M8⟩
    · refine own_st (fun _ k => XS.icmpNo X0.here hx rfl (hb hby at_22) rfl (XT.ii_gt_f hg) k) ?_
      show own_Go p e below _ s₁ (mkF m 25 #[iv p1, iv p2, iv i, iv 1, .unset, .unset] [])
      refine own_st (fun _ k => XT.iconstV X0.here hx rfl (1 : Int32) (hb hby at_25) (by decide) k) ?_
      show own_Go p e below _ s₁ (mkF m 26 #[iv p1, iv p2, iv i, iv 1, .unset, .unset] [(.int 1)])
      refine own_st (fun _ k => XS.goto X0.here hx rfl (pc0 := 26) (pc' := 30) rfl (hb hby at_26) (by decide) (by decide) k) ?_
      show own_Go p e below _ s₁ (mkF m 30 #[iv p1, iv p2, iv i, iv 1, .unset, .unset] [(.int 1)])
      refine own_st (fun _ k => XS.istore X0.here hx rfl (hb hby at_30) rfl (l' := #[iv p1, iv p2, iv i, iv 1, iv 1, .unset]) rfl k) ?_
      show own_Go p e below _ s₁ (mkF m 32 #[iv p1, iv p2, iv i, iv 1, iv 1, .unset] [])
      refine own_st (fun _ k => XS.iloadN X0.here hx rfl (hb hby at_32) rfl k) ?_
      show own_Go p e below _ s₁ (mkF m 33 #[iv p1, iv p2, iv i, iv 1, iv 1, .unset] [(.int 1)])
      refine own_st (fun _ k => XS.ifYes X0.here hx rfl (pc0 := 33) (pc' := 41) rfl (hb hby at_33) rfl (XT.i0_ne_t (by decide)) (by decide) (by decide) k) ?_
      show own_Go p e below _ s₁ (mkF m 41 #[iv p1, iv p2, iv i, iv 1, iv 1, .unset] [])
      refine own_st (fun _ k => XT.iconstV X0.here hx rfl (1 : Int32) (hb hby at_41) (by decide) k) ?_
      show own_Go p e below _ s₁ (mkF m 42 #[iv p1, iv p2, iv i, iv 1, iv 1, .unset] [(.int 1)])
      refine own_st (fun _ k => XS.goto X0.here hx rfl (pc0 := 42) (pc' := 46) rfl (hb hby at_42) (by decide) (by decide) k) ?_
      show own_Go p e below _ s₁ (mkF m 46 #[iv p1, iv p2, iv i, iv 1, iv 1, .unset] [(.int 1)])
      refine own_st (fun _ k => XS.istore X0.here hx rfl (hb hby at_46) rfl (l' := #[iv p1, iv p2, iv i, iv 1, iv 1, iv 1]) rfl k) ?_
      show own_Go p e below _ s₁ (mkF m 48 #[iv p1, iv p2, iv i, iv 1, iv 1, iv 1] [])
      refine own_st (fun _ k => XS.iloadN X0.here hx rfl (hb hby at_48) rfl k) ?_
      show own_Go p e below _ s₁ (mkF m 49 #[iv p1, iv p2, iv i, iv 1, iv 1, iv 1] [(.int i)])
      obtain ⟨_, _, ⟨T10, L10, k10, n10⟩, -, X10, ⟨Lc10, hQ10, l10, y10, z10⟩, st10⟩ := Jvm.LawKit.callS X0 hx (y := (⟨"com/example/vouchpoint/vouchpoint/identity/VerifiedReasonCountsAsVerifiedPinLaw", "pick", "(I)Lcom/example/vouchpoint/vouchpoint/identity/VerifiedReason;"⟩ : MethodName)) hown (mvT hZ (hw _ (List.mem_of_getElem? (i := 1) rfl))) (mvT hZ (hw _ (List.mem_of_getElem? (i := 2) rfl))) (mvT hZ (hw _ (List.mem_of_getElem? (i := 3) rfl))) (mvT hZ (hw _ (List.mem_of_getElem? (i := 4) rfl))) (by decide) (backOf (W := 0) (own_rm_pick l Z a0 hw [] i w_SKIPPED w_TRUSTED w_UNVERIFIABLE w_DISABLED w_ADMINISTRATIVE w_IMPORT w_COMPLETED w_IMPLICIT w_PENDING h0 n0 Z0 S_SKIPPED S_TRUSTED S_UNVERIFIABLE S_DISABLED S_ADMINISTRATIVE S_IMPORT S_COMPLETED S_IMPLICIT S_PENDING) hZ (hw _ (List.mem_of_getElem? (i := 4) rfl)) (hw _ (List.mem_of_getElem? (i := 3) rfl)) (by decide) (by decide)) (g := (mkF m 49 #[iv p1, iv p2, iv i, iv 1, iv 1, iv 1] [(.int i)])) rfl (by rw [hml]; rfl) (argsL := [(.int i)]) (rest := []) (lenOf own_pd0 rfl) rfl (by show 2 * 0 + _ ≤ _; exact Nat.le_of_eq rfl) (hb hby at_49) (fun _ _ => ⟨rfl, e0, (by decide : 0 + 0 ≤ _), (by decide : 0 + 0 ≤ _)⟩)
      dsimp only [Pt.U, Pt.locs, Pt.cells, Pt.slots] at X10 l10 y10 z10 st10 hQ10
      subst l10 y10 z10
      obtain ⟨rfl, N10, eh10⟩ := hQ10
      have M10 := Fr.app N0 N10
      refine own_st st10 ?_
      show own_Go p e below _ T10 (mkF m 52 #[iv p1, iv p2, iv i, iv 1, iv 1, iv 1] [(.ref (own_pick w_SKIPPED w_TRUSTED w_UNVERIFIABLE w_DISABLED w_ADMINISTRATIVE w_IMPORT w_COMPLETED w_IMPLICIT w_PENDING i))])
      refine own_st (fun _ k => XS.iloadN X10.here hx rfl (hb hby at_52) rfl k) ?_
      show own_Go p e below _ T10 (mkF m 53 #[iv p1, iv p2, iv i, iv 1, iv 1, iv 1] [(.int 1), (.ref (own_pick w_SKIPPED w_TRUSTED w_UNVERIFIABLE w_DISABLED w_ADMINISTRATIVE w_IMPORT w_COMPLETED w_IMPLICIT w_PENDING i))])
      obtain ⟨cq11, kq11, q11a, q11b, q11c⟩ := isOf hZ eh10 EE
      obtain ⟨_, _, ⟨T11, L11, k11, n11⟩, -, X11, ⟨Lc11, hQ11, l11, y11, z11⟩, st11⟩ := X10.virtualBack hx (y := (⟨"com/example/vouchpoint/vouchpoint/identity/VerifiedReason", "countsAsVerified", "(Z)Z"⟩ : MethodName)) (z := (⟨"com/example/vouchpoint/vouchpoint/identity/VerifiedReason", "countsAsVerified", "(Z)Z"⟩ : MethodName)) hown (mvT hZ (hw _ (List.mem_of_getElem? (i := 8) rfl))) (mvT hZ (hw _ (List.mem_of_getElem? (i := 9) rfl))) (notFace_of_selects (args := #[]) (mvT hZ (hw _ (List.mem_of_getElem? (i := 11) rfl)))) (mvT hZ (hw _ (List.mem_of_getElem? (i := 11) rfl))) (mvT hZ (hw _ (List.mem_of_getElem? (i := 10) rfl))) (by decide) (backOf (W := 0) (own_rm_cav l Z a0 hw [] (own_pick w_SKIPPED w_TRUSTED w_UNVERIFIABLE w_DISABLED w_ADMINISTRATIVE w_IMPORT w_COMPLETED w_IMPLICIT w_PENDING i) (1 : Int32) (if (5 : Int32) < i then (0 : Int32) else (1 : Int32)) h0 n0 Z0 FF) hZ (hw _ (List.mem_of_getElem? (i := 12) rfl)) (hw _ (List.mem_of_getElem? (i := 6) rfl)) (by decide) (by decide)) q11a q11c (g := (mkF m 53 #[iv p1, iv p2, iv i, iv 1, iv 1, iv 1] [(.int 1), (.ref (own_pick w_SKIPPED w_TRUSTED w_UNVERIFIABLE w_DISABLED w_ADMINISTRATIVE w_IMPORT w_COMPLETED w_IMPLICIT w_PENDING i))])) rfl (by rw [hml]; rfl) (Steps.refl _) (argsL := [(.int (1 : Int32))]) (rest := []) (lenOf own_pd1 rfl) rfl (by show 2 * 0 + _ ≤ _; exact Nat.le_of_eq rfl) (hb hby at_53) (fun _ _ => ⟨rfl, eh10, (by decide : 0 + 0 ≤ _), (by decide : 0 + 0 ≤ _)⟩)
      dsimp only [Pt.U, Pt.locs, Pt.cells, Pt.slots] at X11 l11 y11 z11 st11 hQ11
      subst l11 y11 z11
      obtain ⟨rfl, N11, eh11⟩ := hQ11
      have M11 := Fr.app M10 N11
      refine own_tr st11 ?_
      show own_Go p e below _ T11 (mkF m 56 #[iv p1, iv p2, iv i, iv 1, iv 1, iv 1] [(.int (if 1 = 0 then (if (if 5 < i then 0 else 1) = 0 then 0 else 1) else 1))])
      refine own_st (fun _ k => XS.iload X11.here hx rfl (hb hby at_56) rfl k) ?_
      show own_Go p e below _ T11 (mkF m 58 #[iv p1, iv p2, iv i, iv 1, iv 1, iv 1] [(.int 1), (.int (if 1 = 0 then (if (if 5 < i then 0 else 1) = 0 then 0 else 1) else 1))])
      refine own_st (fun _ k => XS.icmpNo X11.here hx rfl (hb hby at_58) rfl (XT.ii_ne_f (by simp [hg])) k) ?_
      show own_Go p e below _ T11 (mkF m 61 #[iv p1, iv p2, iv i, iv 1, iv 1, iv 1] [])
      refine own_st (fun _ k => XT.iconstV X11.here hx rfl (1 : Int32) (hb hby at_61) (by decide) k) ?_
      show own_Go p e below _ T11 (mkF m 62 #[iv p1, iv p2, iv i, iv 1, iv 1, iv 1] [(.int 1)])
      refine own_st (fun _ k => XS.goto X11.here hx rfl (pc0 := 62) (pc' := 66) rfl (hb hby at_62) (by decide) (by decide) k) ?_
      show own_Go p e below _ T11 (mkF m 66 #[iv p1, iv p2, iv i, iv 1, iv 1, iv 1] [(.int 1)])
      refine own_retN X11 hx Bd.notSynchronized (t := .boolean) Bd.returns (by simp) (hb hby at_66) (by decide) (by decide) ?_
      rw [eh11]
      exact ⟨rfl, M11⟩
set_option maxRecDepth 65536 in
set_option maxHeartbeats 40000000 in
theorem comes_1 {Post : Tables → Env → Array Value → State → Outcome → State → Prop} (hpost : ∀ tb e args s v u, (limb_1_1.after args s (.returned v) u = true ∧ limb_1_2.after args s (.returned v) u = true ∧ True) → FrameEnd s (.returned v) u (Jvm.fieldLocs frame_1_writes args s ++ Jvm.arrayLocs frame_1_arrays args s ++ Jvm.staticLocs frame_1_statics s) 0 0 → Post tb e args s (.returned v) u) :
    ArmFor flags0 classFile x code maxLocals ret World_1 tables_1 room_1 Calls_1 rest_1 Pre_1 Post := by
  intro l hfl _ _ p e ha hc hk s m args below hf hA hF happ hP
  obtain ⟨hcalls, hrest, hpre⟩ := hP
  obtain ⟨-, -, -, hnamed, -, -, -, hat⟩ := (Spec.applies_iff hf).mp happ
  obtain ⟨hg, hn⟩ := and_e (Cond.before_iff.mp (show (Jvm.Cond.and given_1 narrow_1).before args s = true from hpre))
  obtain ⟨gl0, gr0⟩ := and_e hg
  obtain ⟨gl1, gr1⟩ := and_e gr0
  obtain ⟨w0, w1, rfl⟩ : ∃ w0 w1 : Value, args = #[w0, w1] := by
    have hs : args.size = 2 := by simpa [Cond.value, given_1] using gl0
    obtain ⟨L⟩ := args
    match L, hs with
    | [w0, w1], _ => exact ⟨w0, w1, rfl⟩
  have hw := fun d (hd : d ∈ tables_1) => atoms_spec (ws := Jvm.Cond.code x code maxLocals ret :: tables_1) hat d (List.mem_cons_of_mem _ hd)
  obtain ⟨nl0, nr0⟩ := and_e hn
  obtain ⟨nl1, nr1⟩ := and_e nr0
  obtain ⟨nl2, nr2⟩ := and_e nr1
  obtain ⟨nl3, nr3⟩ := and_e nr2
  obtain ⟨nl4, nr4⟩ := and_e nr3
  obtain ⟨nl5, nr5⟩ := and_e nr4
  obtain ⟨nl6, nr6⟩ := and_e nr5
  obtain ⟨nl7, nr7⟩ := and_e nr6
  obtain ⟨nl8, nr8⟩ := and_e nr7
  obtain ⟨nl9, nr9⟩ := and_e nr8
  obtain ⟨nl10, nr10⟩ := and_e nr9
  obtain ⟨nl11, nr11⟩ := and_e nr10
  obtain ⟨nl12, nr12⟩ := and_e nr11
  obtain ⟨nl13, nr13⟩ := and_e nr12
  obtain ⟨nl14, nr14⟩ := and_e nr13
  obtain ⟨nl15, nr15⟩ := and_e nr14
  obtain ⟨nl16, nr16⟩ := and_e nr15
  have nn0 := nl0
  have nn1 := nl1
  have nn2 := nl2
  have nn3 := nl3
  have nn4 := nl4
  have nn5 := nl5
  have nn6 := nl6
  have nn7 := nl7
  have nn8 := nl8
  have nn9 := nl9
  have nn10 := nl10
  have nn11 := nl11
  have nn12 := nl12
  have nn13 := nl13
  have nn14 := nl14
  have nn15 := nl15
  have nn16 := nl16
  have nn17 := nr16
  have hfit : Fit s := fun {y c} hc i hi => by
    obtain ⟨ha, rfl⟩ := Array.getElem?_eq_some_iff.mp hc
    have q := List.all_eq_true.mp ((Array.all_eq_true_iff_forall_mem.mp hF) _ (Array.getElem_mem ha)) i (List.mem_range.mpr hi)
    simpa [Array.getElem?_eq_getElem hi] using q
  obtain ⟨i0, ei0⟩ := is_v gl1
  obtain rfl : w0 = (.int i0) := Option.some.inj ei0
  obtain ⟨i1, ei1⟩ := is_v gr1
  obtain rfl : w1 = (.int i1) := Option.some.inj ei1
  obtain ⟨w_SKIPPED, ev_SKIPPED⟩ := exa_v nn0
  have S_SKIPPED : Sta s s.heap "com/example/vouchpoint/vouchpoint/identity/VerifiedReason" "SKIPPED" "Lcom/example/vouchpoint/vouchpoint/identity/VerifiedReason;" (.ref w_SKIPPED) := Sta.start ev_SKIPPED (Or.inr ⟨(hw _ (List.mem_of_getElem? (i := 6) rfl)), (hw _ (List.mem_of_getElem? (i := 7) rfl))⟩)
  have E_SKIPPED : Exa s s.heap w_SKIPPED "com/example/vouchpoint/vouchpoint/identity/VerifiedReason" := Exa.start ev_SKIPPED nn0
  obtain ⟨w_IMPORT, ev_IMPORT⟩ := exa_v nn1
  have S_IMPORT : Sta s s.heap "com/example/vouchpoint/vouchpoint/identity/VerifiedReason" "IMPORT" "Lcom/example/vouchpoint/vouchpoint/identity/VerifiedReason;" (.ref w_IMPORT) := Sta.start ev_IMPORT (Or.inr ⟨(hw _ (List.mem_of_getElem? (i := 6) rfl)), (hw _ (List.mem_of_getElem? (i := 14) rfl))⟩)
  have E_IMPORT : Exa s s.heap w_IMPORT "com/example/vouchpoint/vouchpoint/identity/VerifiedReason" := Exa.start ev_IMPORT nn1
  obtain ⟨w_ADMINISTRATIVE, ev_ADMINISTRATIVE⟩ := exa_v nn3
  have S_ADMINISTRATIVE : Sta s s.heap "com/example/vouchpoint/vouchpoint/identity/VerifiedReason" "ADMINISTRATIVE" "Lcom/example/vouchpoint/vouchpoint/identity/VerifiedReason;" (.ref w_ADMINISTRATIVE) := Sta.start ev_ADMINISTRATIVE (Or.inr ⟨(hw _ (List.mem_of_getElem? (i := 6) rfl)), (hw _ (List.mem_of_getElem? (i := 18) rfl))⟩)
  have E_ADMINISTRATIVE : Exa s s.heap w_ADMINISTRATIVE "com/example/vouchpoint/vouchpoint/identity/VerifiedReason" := Exa.start ev_ADMINISTRATIVE nn3
  obtain ⟨w_TRUSTED, ev_TRUSTED⟩ := exa_v nn5
  have S_TRUSTED : Sta s s.heap "com/example/vouchpoint/vouchpoint/identity/VerifiedReason" "TRUSTED" "Lcom/example/vouchpoint/vouchpoint/identity/VerifiedReason;" (.ref w_TRUSTED) := Sta.start ev_TRUSTED (Or.inr ⟨(hw _ (List.mem_of_getElem? (i := 6) rfl)), (hw _ (List.mem_of_getElem? (i := 20) rfl))⟩)
  have E_TRUSTED : Exa s s.heap w_TRUSTED "com/example/vouchpoint/vouchpoint/identity/VerifiedReason" := Exa.start ev_TRUSTED nn5
  obtain ⟨w_COMPLETED, ev_COMPLETED⟩ := exa_v nn6
  have S_COMPLETED : Sta s s.heap "com/example/vouchpoint/vouchpoint/identity/VerifiedReason" "COMPLETED" "Lcom/example/vouchpoint/vouchpoint/identity/VerifiedReason;" (.ref w_COMPLETED) := Sta.start ev_COMPLETED (Or.inr ⟨(hw _ (List.mem_of_getElem? (i := 6) rfl)), (hw _ (List.mem_of_getElem? (i := 22) rfl))⟩)
  have E_COMPLETED : Exa s s.heap w_COMPLETED "com/example/vouchpoint/vouchpoint/identity/VerifiedReason" := Exa.start ev_COMPLETED nn6
  obtain ⟨w_PENDING, ev_PENDING⟩ := exa_v nn8
  have S_PENDING : Sta s s.heap "com/example/vouchpoint/vouchpoint/identity/VerifiedReason" "PENDING" "Lcom/example/vouchpoint/vouchpoint/identity/VerifiedReason;" (.ref w_PENDING) := Sta.start ev_PENDING (Or.inr ⟨(hw _ (List.mem_of_getElem? (i := 6) rfl)), (hw _ (List.mem_of_getElem? (i := 24) rfl))⟩)
  have E_PENDING : Exa s s.heap w_PENDING "com/example/vouchpoint/vouchpoint/identity/VerifiedReason" := Exa.start ev_PENDING nn8
  obtain ⟨w_DISABLED, ev_DISABLED⟩ := exa_v nn9
  have S_DISABLED : Sta s s.heap "com/example/vouchpoint/vouchpoint/identity/VerifiedReason" "DISABLED" "Lcom/example/vouchpoint/vouchpoint/identity/VerifiedReason;" (.ref w_DISABLED) := Sta.start ev_DISABLED (Or.inr ⟨(hw _ (List.mem_of_getElem? (i := 6) rfl)), (hw _ (List.mem_of_getElem? (i := 26) rfl))⟩)
  have E_DISABLED : Exa s s.heap w_DISABLED "com/example/vouchpoint/vouchpoint/identity/VerifiedReason" := Exa.start ev_DISABLED nn9
  obtain ⟨w_UNVERIFIABLE, ev_UNVERIFIABLE⟩ := exa_v nn10
  have S_UNVERIFIABLE : Sta s s.heap "com/example/vouchpoint/vouchpoint/identity/VerifiedReason" "UNVERIFIABLE" "Lcom/example/vouchpoint/vouchpoint/identity/VerifiedReason;" (.ref w_UNVERIFIABLE) := Sta.start ev_UNVERIFIABLE (Or.inr ⟨(hw _ (List.mem_of_getElem? (i := 6) rfl)), (hw _ (List.mem_of_getElem? (i := 28) rfl))⟩)
  have E_UNVERIFIABLE : Exa s s.heap w_UNVERIFIABLE "com/example/vouchpoint/vouchpoint/identity/VerifiedReason" := Exa.start ev_UNVERIFIABLE nn10
  obtain ⟨w_IMPLICIT, ev_IMPLICIT⟩ := exa_v nn14
  have S_IMPLICIT : Sta s s.heap "com/example/vouchpoint/vouchpoint/identity/VerifiedReason" "IMPLICIT" "Lcom/example/vouchpoint/vouchpoint/identity/VerifiedReason;" (.ref w_IMPLICIT) := Sta.start ev_IMPLICIT (Or.inr ⟨(hw _ (List.mem_of_getElem? (i := 6) rfl)), (hw _ (List.mem_of_getElem? (i := 30) rfl))⟩)
  have E_IMPLICIT : Exa s s.heap w_IMPLICIT "com/example/vouchpoint/vouchpoint/identity/VerifiedReason" := Exa.start ev_IMPLICIT nn14
  have F_verifiedRegardlessOfFlag_IMPORT : Fld s s.heap w_IMPORT "com/example/vouchpoint/vouchpoint/identity/VerifiedReason" "verifiedRegardlessOfFlag" "Z" (.int (1 : Int32)) := Fld.start ((fld_at ev_IMPORT).symm.trans (own_eq_int nn2))
  have F_verifiedRegardlessOfFlag_ADMINISTRATIVE : Fld s s.heap w_ADMINISTRATIVE "com/example/vouchpoint/vouchpoint/identity/VerifiedReason" "verifiedRegardlessOfFlag" "Z" (.int (1 : Int32)) := Fld.start ((fld_at ev_ADMINISTRATIVE).symm.trans (own_eq_int nn4))
  have F_verifiedRegardlessOfFlag_COMPLETED : Fld s s.heap w_COMPLETED "com/example/vouchpoint/vouchpoint/identity/VerifiedReason" "verifiedRegardlessOfFlag" "Z" (.int (0 : Int32)) := Fld.start ((fld_at ev_COMPLETED).symm.trans (own_eq_int nn7))
  have F_verifiedRegardlessOfFlag_UNVERIFIABLE : Fld s s.heap w_UNVERIFIABLE "com/example/vouchpoint/vouchpoint/identity/VerifiedReason" "verifiedRegardlessOfFlag" "Z" (.int (1 : Int32)) := Fld.start ((fld_at ev_UNVERIFIABLE).symm.trans (own_eq_int nn11))
  have F_verifiedRegardlessOfFlag_DISABLED : Fld s s.heap w_DISABLED "com/example/vouchpoint/vouchpoint/identity/VerifiedReason" "verifiedRegardlessOfFlag" "Z" (.int (1 : Int32)) := Fld.start ((fld_at ev_DISABLED).symm.trans (own_eq_int nn12))
  have F_verifiedRegardlessOfFlag_TRUSTED : Fld s s.heap w_TRUSTED "com/example/vouchpoint/vouchpoint/identity/VerifiedReason" "verifiedRegardlessOfFlag" "Z" (.int (1 : Int32)) := Fld.start ((fld_at ev_TRUSTED).symm.trans (own_eq_int nn13))
  have F_verifiedRegardlessOfFlag_IMPLICIT : Fld s s.heap w_IMPLICIT "com/example/vouchpoint/vouchpoint/identity/VerifiedReason" "verifiedRegardlessOfFlag" "Z" (.int (0 : Int32)) := Fld.start ((fld_at ev_IMPLICIT).symm.trans (own_eq_int nn15))
  have F_verifiedRegardlessOfFlag_PENDING : Fld s s.heap w_PENDING "com/example/vouchpoint/vouchpoint/identity/VerifiedReason" "verifiedRegardlessOfFlag" "Z" (.int (0 : Int32)) := Fld.start ((fld_at ev_PENDING).symm.trans (own_eq_int nn16))
  have F_verifiedRegardlessOfFlag_SKIPPED : Fld s s.heap w_SKIPPED "com/example/vouchpoint/vouchpoint/identity/VerifiedReason" "verifiedRegardlessOfFlag" "Z" (.int (1 : Int32)) := Fld.start ((fld_at ev_SKIPPED).symm.trans (own_eq_int nn17))
  obtain ⟨n, o, h1, h2, h3, _, L, rfl, ⟨rfl, N⟩, hq⟩ := own_rm_law l s _ hw tables_1 i0 i1 w_SKIPPED w_TRUSTED w_UNVERIFIABLE w_DISABLED w_ADMINISTRATIVE w_IMPORT w_COMPLETED w_IMPLICIT w_PENDING s.heap s.heap.size (Nat.le_refl _) S_SKIPPED S_TRUSTED S_UNVERIFIABLE S_DISABLED S_ADMINISTRATIVE S_IMPORT S_COMPLETED S_IMPLICIT S_PENDING E_SKIPPED E_TRUSTED E_UNVERIFIABLE E_DISABLED E_ADMINISTRATIVE E_IMPORT E_COMPLETED E_IMPLICIT E_PENDING F_verifiedRegardlessOfFlag_SKIPPED F_verifiedRegardlessOfFlag_TRUSTED F_verifiedRegardlessOfFlag_UNVERIFIABLE F_verifiedRegardlessOfFlag_DISABLED F_verifiedRegardlessOfFlag_ADMINISTRATIVE F_verifiedRegardlessOfFlag_IMPORT F_verifiedRegardlessOfFlag_COMPLETED F_verifiedRegardlessOfFlag_IMPLICIT F_verifiedRegardlessOfFlag_PENDING p e ha hc hk s m _ below hf ((Spec.applies_iff_loose hf).mp happ).1 ⟨rfl, State.Warmed39.refl s, rfl⟩ trivial
  refine ⟨n, _, h1, h2, h3, hpost _ _ _ _ _ _ ⟨Cond.after_iff.mpr rfl, Cond.after_iff.mpr (eq_i res_at (Term.int_eval (1)) rfl), trivial⟩ ⟨hq.1, hq.2.1, (hq.2.2.sift fun y hy => Or.inr (N y hy)).mono (by decide) (by decide)⟩⟩
theorem main_1_1 : Claimed_1_1 := comes_1 fun _ _ _ _ _ _ h hF => ⟨h.1, hF⟩
theorem main_1_2 : Claimed_1_2 := comes_1 fun _ _ _ _ _ _ h hF => ⟨h.2.1, hF⟩
end Jvm.Pilot.@@N@@
namespace Jvm.Pilot.@@N@@
open Jvm Jvm.ClassFile Sem Op Lib Jvm.Free Jvm.Stand Jvm.Pilot.@@N@@.Jvm.D
/-! MADE BY PROGRAM (witnessworld.py) out of the Statement's table words and the real class files: 13 classes; the members and pool entries that the words name. The judged class is class 1, her method 2. -/
namespace start1
open Jvm.ClassFile
def u (s : String) : CpInfo := .utf8 (stringToUtf16 s)
/-- a pool by its gaps: so many unusable entries, then the entry; so many at the end -/
def gap : Nat → List CpInfo → List CpInfo
  | 0, r => r
  | n + 1, r => .unusable :: gap n r
def poolList (es : List (Nat × CpInfo)) (last : Nat) : List CpInfo := es.foldr (fun e r => gap e.1 (e.2 :: r)) (gap last [])
def pool (es : List (Nat × CpInfo)) (last : Nat) : Array CpInfo := ⟨poolList es last⟩
def fileOf (pool : Array CpInfo) (this : Nat) (attrs : Array Attribute := #[]) (ms : Array MethodInfo := #[]) (fl : Nat := 33) (sup : Nat := 0) (ifs : Array Nat := #[]) (fds : Array FieldInfo := #[]) : ClassFile where
  minorVersion := 0
  majorVersion := 65
  constantPool := pool
  accessFlags := fl
  thisClass := this
  superClass := sup
  interfaces := ifs
  fields := fds
  methods := ms
  attributes := attrs
def plain (name : String) (sup : Option ClassId) : Class where
  name := name
  kind := .ordinary
  loader := none
  accessFlags := 33
  super := sup
  interfaces := #[]
  cf := none
  fields := #[]
  methods := #[]
  instanceTypes := #[]
  staticTypes := #[]
  resolved := #[]
  callSites := []
  init := .initialized
  statics := none
  mirror := none

def pool0 : Array CpInfo := pool [(5, u "<init>"), (0, u "()V"), (1, .class_ 10), (1, u "java/lang/Object")] 113

def k0m0 : Method := { name := "<init>", desc := "()V", sig := { parameters := [], returnType := none }, accessFlags := 1, code := none }
/-- java/lang/Object -/
def k0 : Class := { plain "java/lang/Object" none with
  accessFlags := 33
  interfaces := #[]
  cf := some (fileOf pool0 8 #[] #[{ accessFlags := 1, nameIndex := 5, descriptorIndex := 6, attributes := #[] }] 33 0 #[] #[])
  fields := #[]
  methods := #[k0m0]
  instanceTypes := #[]
  staticTypes := #[]
  resolved := Array.replicate 124 none
  statics := none }

def pool1 : Array CpInfo := pool [(2, .class_ 4), (1, u "java/lang/Object"), (0, u "<init>"), (0, u "()V"), (0, .fieldref 8 9), (0, .class_ 10), (0, .nameAndType 11 12), (0, u "com/example/vouchpoint/vouchpoint/identity/VerifiedReason"), (0, u "SKIPPED"), (0, u "Lcom/example/vouchpoint/vouchpoint/identity/VerifiedReason;"), (0, .fieldref 8 14), (0, .nameAndType 15 12), (0, u "TRUSTED"), (0, .fieldref 8 17), (0, .nameAndType 18 12), (0, u "UNVERIFIABLE"), (0, .fieldref 8 20), (0, .nameAndType 21 12), (0, u "DISABLED"), (0, .fieldref 8 23), (0, .nameAndType 24 12), (0, u "ADMINISTRATIVE"), (0, .fieldref 8 26), (0, .nameAndType 27 12), (0, u "IMPORT"), (0, .fieldref 8 29), (0, .nameAndType 30 12), (0, u "COMPLETED"), (0, .fieldref 8 32), (0, .nameAndType 33 12), (0, u "IMPLICIT"), (0, .fieldref 8 35), (0, .nameAndType 36 12), (0, u "PENDING"), (0, .integer 2147483647), (0, .methodref 39 40), (0, .class_ 41), (0, .nameAndType 42 43), (0, u "com/example/vouchpoint/vouchpoint/identity/VerifiedReasonCountsAsVerifiedPinLaw"), (0, u "pick"), (0, u "(I)Lcom/example/vouchpoint/vouchpoint/identity/VerifiedReason;"), (0, .methodref 8 45), (0, .nameAndType 46 47), (0, u "countsAsVerified"), (0, u "(Z)Z"), (3, u "law"), (0, u "(II)Z")] 2

def k1m0 : Method := { name := "<init>", desc := "()V", sig := { parameters := [], returnType := none }, accessFlags := 2, code := none }
def k1c1 : Code := { maxStack := 2, maxLocals := 1, code := method_2_code, exceptionTable := #[], attributes := #[] }
def k1m1 : Method := { name := "pick", desc := "(I)Lcom/example/vouchpoint/vouchpoint/identity/VerifiedReason;", sig := { parameters := [.int], returnType := some (.object "com/example/vouchpoint/vouchpoint/identity/VerifiedReason") }, accessFlags := 10, code := some k1c1 }
def k1c2 : Code := { maxStack := 2, maxLocals := 6, code := code, exceptionTable := #[], attributes := #[] }
def k1m2 : Method := { name := "law", desc := "(II)Z", sig := { parameters := [.int, .int], returnType := some .boolean }, accessFlags := 9, code := some k1c2 }
/-- com/example/vouchpoint/vouchpoint/identity/VerifiedReasonCountsAsVerifiedPinLaw -/
def k1 : Class := { plain "com/example/vouchpoint/vouchpoint/identity/VerifiedReasonCountsAsVerifiedPinLaw" (some 0) with
  accessFlags := 49
  interfaces := #[]
  cf := some (fileOf pool1 39 #[] #[{ accessFlags := 2, nameIndex := 5, descriptorIndex := 6, attributes := #[] }, { accessFlags := 10, nameIndex := 42, descriptorIndex := 43, attributes := #[] }, { accessFlags := 9, nameIndex := 51, descriptorIndex := 52, attributes := #[] }] 49 2 #[] #[])
  fields := #[]
  methods := #[k1m0, k1m1, k1m2]
  instanceTypes := #[]
  staticTypes := #[]
  resolved := Array.replicate 55 none
  statics := none }

def pool2 : Array CpInfo := pool [(1, .class_ 2), (0, u "java/lang/constant/Constable"), (0, .class_ 4), (0, u "java/lang/Object")] 6

/-- java/lang/constant/Constable -/
def k2 : Class := { plain "java/lang/constant/Constable" (some 0) with
  accessFlags := 1537
  interfaces := #[]
  cf := some (fileOf pool2 1 #[] #[] 1537 3 #[] #[])
  fields := #[]
  methods := #[]
  instanceTypes := #[]
  staticTypes := #[]
  resolved := Array.replicate 11 none
  statics := none }

def pool3 : Array CpInfo := pool [(1, .class_ 2), (0, u "java/lang/Comparable"), (0, .class_ 4), (0, u "java/lang/Object")] 7

/-- java/lang/Comparable -/
def k3 : Class := { plain "java/lang/Comparable" (some 0) with
  accessFlags := 1537
  interfaces := #[]
  cf := some (fileOf pool3 1 #[] #[] 1537 3 #[] #[])
  fields := #[]
  methods := #[]
  instanceTypes := #[]
  staticTypes := #[]
  resolved := Array.replicate 12 none
  statics := none }

def pool4 : Array CpInfo := pool [(1, .class_ 2), (0, u "java/io/Serializable"), (0, .class_ 4), (0, u "java/lang/Object")] 2

/-- java/io/Serializable -/
def k4 : Class := { plain "java/io/Serializable" (some 0) with
  accessFlags := 1537
  interfaces := #[]
  cf := some (fileOf pool4 1 #[] #[] 1537 3 #[] #[])
  fields := #[]
  methods := #[]
  instanceTypes := #[]
  staticTypes := #[]
  resolved := Array.replicate 7 none
  statics := none }

def pool5 : Array CpInfo := pool [(2, .class_ 4), (1, u "java/lang/Enum"), (0, u "name"), (0, u "Ljava/lang/String;"), (2, u "ordinal"), (0, u "I"), (1, .class_ 14), (1, u "java/lang/Object"), (4, u "hash"), (86, .class_ 108), (1, u "java/lang/Enum$EnumDesc"), (2, .class_ 112), (0, u "java/lang/constant/Constable"), (0, .class_ 114), (0, u "java/lang/Comparable"), (0, .class_ 116), (0, u "java/io/Serializable")] 87

/-- java/lang/Enum -/
def k5 : Class := { plain "java/lang/Enum" (some 0) with
  accessFlags := 1057
  interfaces := #[2, 3, 4]
  cf := some (fileOf pool5 2 #[.nestMembers #[106]] #[] 1057 12 #[111, 113, 115] #[{ accessFlags := 18, nameIndex := 5, descriptorIndex := 6, attributes := #[] }, { accessFlags := 18, nameIndex := 9, descriptorIndex := 10, attributes := #[] }, { accessFlags := 2, nameIndex := 19, descriptorIndex := 10, attributes := #[] }])
  fields := #[{ name := "name", type := (.object "java/lang/String"), accessFlags := 18, slot := 0, constantValue := 0 }, { name := "ordinal", type := .int, accessFlags := 18, slot := 1, constantValue := 0 }, { name := "hash", type := .int, accessFlags := 2, slot := 2, constantValue := 0 }]
  methods := #[]
  instanceTypes := #[(.object "java/lang/String"), .int, .int]
  staticTypes := #[]
  resolved := Array.replicate 204 none
  statics := none }

def pool6 : Array CpInfo := pool [(15, .class_ 16), (0, u "com/example/vouchpoint/vouchpoint/json/WireNamed"), (19, .class_ 37), (0, u "java/lang/Object")] 11

/-- com/example/vouchpoint/vouchpoint/json/WireNamed -/
def k6 : Class := { plain "com/example/vouchpoint/vouchpoint/json/WireNamed" (some 0) with
  accessFlags := 1537
  interfaces := #[]
  cf := some (fileOf pool6 15 #[] #[] 1537 36 #[] #[])
  fields := #[]
  methods := #[]
  instanceTypes := #[]
  staticTypes := #[]
  resolved := Array.replicate 49 none
  statics := none }

def pool7 : Array CpInfo := pool [(1, .class_ 2), (0, u "com/example/vouchpoint/vouchpoint/identity/VerifiedReason"), (2, u "SKIPPED"), (0, u "Lcom/example/vouchpoint/vouchpoint/identity/VerifiedReason;"), (2, u "TRUSTED"), (2, u "UNVERIFIABLE"), (2, u "DISABLED"), (2, u "ADMINISTRATIVE"), (2, u "IMPORT"), (2, u "COMPLETED"), (2, u "IMPLICIT"), (2, u "PENDING"), (2, u "$VALUES"), (0, u "[Lcom/example/vouchpoint/vouchpoint/identity/VerifiedReason;"), (6, .class_ 43), (1, u "java/lang/Enum"), (8, u "wireName"), (0, u "Ljava/lang/String;"), (0, .fieldref 1 55), (0, .nameAndType 56 57), (0, u "verifiedRegardlessOfFlag"), (0, u "Z"), (34, .class_ 93), (0, u "com/example/vouchpoint/vouchpoint/json/WireNamed"), (8, u "countsAsVerified"), (0, u "(Z)Z")] 6

def k7c0 : Code := { maxStack := 1, maxLocals := 2, code := prog_15_method_5_code, exceptionTable := #[], attributes := #[] }
def k7m0 : Method := { name := "countsAsVerified", desc := "(Z)Z", sig := { parameters := [.boolean], returnType := some .boolean }, accessFlags := 1, code := some k7c0 }
/-- com/example/vouchpoint/vouchpoint/identity/VerifiedReason -/
def k7 : Class := { plain "com/example/vouchpoint/vouchpoint/identity/VerifiedReason" (some 5) with
  accessFlags := 16433
  interfaces := #[6]
  cf := some (fileOf pool7 1 #[] #[{ accessFlags := 1, nameIndex := 102, descriptorIndex := 103, attributes := #[] }] 16433 41 #[92] #[{ accessFlags := 16409, nameIndex := 5, descriptorIndex := 6, attributes := #[] }, { accessFlags := 16409, nameIndex := 9, descriptorIndex := 6, attributes := #[] }, { accessFlags := 16409, nameIndex := 12, descriptorIndex := 6, attributes := #[] }, { accessFlags := 16409, nameIndex := 15, descriptorIndex := 6, attributes := #[] }, { accessFlags := 16409, nameIndex := 18, descriptorIndex := 6, attributes := #[] }, { accessFlags := 16409, nameIndex := 21, descriptorIndex := 6, attributes := #[] }, { accessFlags := 16409, nameIndex := 24, descriptorIndex := 6, attributes := #[] }, { accessFlags := 16409, nameIndex := 27, descriptorIndex := 6, attributes := #[] }, { accessFlags := 16409, nameIndex := 30, descriptorIndex := 6, attributes := #[] }, { accessFlags := 18, nameIndex := 52, descriptorIndex := 53, attributes := #[] }, { accessFlags := 18, nameIndex := 56, descriptorIndex := 57, attributes := #[] }, { accessFlags := 4122, nameIndex := 33, descriptorIndex := 34, attributes := #[] }])
  fields := #[{ name := "SKIPPED", type := (.object "com/example/vouchpoint/vouchpoint/identity/VerifiedReason"), accessFlags := 16409, slot := 0, constantValue := 0 }, { name := "TRUSTED", type := (.object "com/example/vouchpoint/vouchpoint/identity/VerifiedReason"), accessFlags := 16409, slot := 1, constantValue := 0 }, { name := "UNVERIFIABLE", type := (.object "com/example/vouchpoint/vouchpoint/identity/VerifiedReason"), accessFlags := 16409, slot := 2, constantValue := 0 }, { name := "DISABLED", type := (.object "com/example/vouchpoint/vouchpoint/identity/VerifiedReason"), accessFlags := 16409, slot := 3, constantValue := 0 }, { name := "ADMINISTRATIVE", type := (.object "com/example/vouchpoint/vouchpoint/identity/VerifiedReason"), accessFlags := 16409, slot := 4, constantValue := 0 }, { name := "IMPORT", type := (.object "com/example/vouchpoint/vouchpoint/identity/VerifiedReason"), accessFlags := 16409, slot := 5, constantValue := 0 }, { name := "COMPLETED", type := (.object "com/example/vouchpoint/vouchpoint/identity/VerifiedReason"), accessFlags := 16409, slot := 6, constantValue := 0 }, { name := "IMPLICIT", type := (.object "com/example/vouchpoint/vouchpoint/identity/VerifiedReason"), accessFlags := 16409, slot := 7, constantValue := 0 }, { name := "PENDING", type := (.object "com/example/vouchpoint/vouchpoint/identity/VerifiedReason"), accessFlags := 16409, slot := 8, constantValue := 0 }, { name := "wireName", type := (.object "java/lang/String"), accessFlags := 18, slot := 3, constantValue := 0 }, { name := "verifiedRegardlessOfFlag", type := .boolean, accessFlags := 18, slot := 4, constantValue := 0 }, { name := "$VALUES", type := (.array (.object "com/example/vouchpoint/vouchpoint/identity/VerifiedReason")), accessFlags := 4122, slot := 9, constantValue := 0 }]
  methods := #[k7m0]
  instanceTypes := #[(.object "java/lang/String"), .int, .int, (.object "java/lang/String"), .boolean]
  staticTypes := #[(.object "com/example/vouchpoint/vouchpoint/identity/VerifiedReason"), (.object "com/example/vouchpoint/vouchpoint/identity/VerifiedReason"), (.object "com/example/vouchpoint/vouchpoint/identity/VerifiedReason"), (.object "com/example/vouchpoint/vouchpoint/identity/VerifiedReason"), (.object "com/example/vouchpoint/vouchpoint/identity/VerifiedReason"), (.object "com/example/vouchpoint/vouchpoint/identity/VerifiedReason"), (.object "com/example/vouchpoint/vouchpoint/identity/VerifiedReason"), (.object "com/example/vouchpoint/vouchpoint/identity/VerifiedReason"), (.object "com/example/vouchpoint/vouchpoint/identity/VerifiedReason"), (.array (.object "com/example/vouchpoint/vouchpoint/identity/VerifiedReason"))]
  resolved := Array.replicate 110 none
  statics := some 0 }

def pool8 : Array CpInfo := pool [(1, u "java/lang/Cloneable"), (0, .class_ 1), (0, u "java/lang/Object"), (0, .class_ 3)] 3

/-- java/lang/Cloneable -/
def k8 : Class := { plain "java/lang/Cloneable" (some 0) with
  accessFlags := 1537
  interfaces := #[]
  cf := some (fileOf pool8 2 #[] #[] 1537 4 #[] #[])
  fields := #[]
  methods := #[]
  instanceTypes := #[]
  staticTypes := #[]
  resolved := Array.replicate 8 none
  statics := none }

/-- the primitive byte -/
def k9 : Class := { plain "byte" none with kind := .primitive 'B', accessFlags := 0x411 }
/-- [B -/
def k10 : Class := { plain "[B" (some 0) with kind := .array 9 .byte, interfaces := #[8, 4], accessFlags := 1041 }

/-- the primitive int -/
def k11 : Class := { plain "int" none with kind := .primitive 'I', accessFlags := 0x411 }
/-- [I -/
def k12 : Class := { plain "[I" (some 0) with kind := .array 11 .int, interfaces := #[8, 4], accessFlags := 1041 }

def heap : Heap := #[{ cls := 7, slots := #[.ref 1, .ref 2, .ref 3, .ref 4, .ref 5, .ref 6, .ref 7, .ref 8, .ref 9, .null], vm := .statics 7 },
  { cls := 7, slots := #[.null, .int 0, .int 0, .null, .int 1], vm := .none },
  { cls := 7, slots := #[.null, .int 1, .int 0, .null, .int 1], vm := .none },
  { cls := 7, slots := #[.null, .int 2, .int 0, .null, .int 1], vm := .none },
  { cls := 7, slots := #[.null, .int 3, .int 0, .null, .int 1], vm := .none },
  { cls := 7, slots := #[.null, .int 4, .int 0, .null, .int 1], vm := .none },
  { cls := 7, slots := #[.null, .int 5, .int 0, .null, .int 1], vm := .none },
  { cls := 7, slots := #[.null, .int 6, .int 0, .null, .int 0], vm := .none },
  { cls := 7, slots := #[.null, .int 7, .int 0, .null, .int 0], vm := .none },
  { cls := 7, slots := #[.null, .int 8, .int 0, .null, .int 0], vm := .none }]
def classes : Array Class := #[k0, k1, k2, k3, k4, k5, k6, k7, k8, k9, k10, k11, k12]
def interned : List (Array UInt16 × Addr) := []
def slotsUsed : Nat := 55
def theMethod : MethodId := ⟨1, 2⟩
def args0 : Array Value := #[.int 5, .int 3]
def aboutOver (below : List Frame) : State where
  vm := { classes := classes, interned := interned.toArray }
  heap := heap
  slotsUsed := slotsUsed
  threads := #[{ frames := .invoking theMethod args0 :: below }]
def below0 : List Frame := [.native { method := ⟨0, 0⟩, args := #[] }]
def about1 : State := aboutOver below0
def p0 : Program := .bare "" "" ""
def e0 : Env := launch0.env 0 0 0
theorem w_frames : about1.frames = Frame.invoking theMethod args0 :: below0 := rfl
set_option maxRecDepth 65536 in
theorem w_args : argsFit about1.vm theMethod args0 = true := by decide +kernel
set_option maxRecDepth 65536 in
theorem w_heap : heapFits about1 = true := by decide +kernel
set_option maxRecDepth 65536 in
theorem w_runnable : about1.curStatus? = some .runnable := by decide +kernel
set_option maxRecDepth 65536 in
theorem w_alone : about1.alone = true := by decide +kernel
set_option maxRecDepth 65536 in
theorem w_named : about1.methodNamed? x = some theMethod := by decide +kernel
set_option maxRecDepth 65536 in
theorem w_hears : about1.hears theMethod below0 = true := by decide +kernel
set_option maxRecDepth 65536 in
theorem w_ripe : about1.ripe theMethod args0 below0 = true := by decide +kernel
theorem w_running : about1.status = .running := rfl
set_option maxRecDepth 65536 in
theorem w_room : about1.hasRoom e0.platform room_1 = true :=
  launch0.hasRoom_least _ room_1 (by decide +kernel) (by decide +kernel) (by decide +kernel) (by decide +kernel) (by decide +kernel) (by decide +kernel)
theorem allAtoms_all (ts : List Jvm.Cond) (a : Array Jvm.Value) (st : Jvm.State) : (allAtoms ts).before a st = ts.all (fun c => c.before a st) := by
  induction ts with
  | nil => rfl
  | cons c t ih =>
    show (Jvm.Cond.and c (allAtoms t)).before a st = _
    rw [Jvm.Cond.before_and, ih, List.all_cons]
def words1 : List Jvm.Cond := Jvm.Cond.code x code maxLocals ret :: tables_1
/-- a 'code' word, met by the world's own term for the bytes: nothing is compared byte by byte -/
theorem code_word {y : MethodName} {bytes : ByteArray} {mx : Nat} {rt : Option FieldType} {a : Array Value} {s : State} {m : MethodId} {meth : Method} {c : Code} (h1 : s.methodNamed? y = some m) (h2 : s.vm.method? m = some meth) (h3 : meth.code = some c) (h4 : c.code = bytes)
    (h5 : (c.maxLocals == mx && c.exceptionTable.isEmpty && decide (c.maxStack ≤ mostOperands) && decide (meth.sig.returnType = rt) && !meth.locks && decide (parseMethodDescriptor y.desc = some meth.sig)) = true) : (Jvm.Cond.code y bytes mx rt).before a s = true := by
  simp only [Bool.and_eq_true, beq_iff_eq, Bool.not_eq_true', decide_eq_true_eq] at h5
  obtain ⟨⟨⟨⟨⟨g1, g2⟩, g3⟩, g4⟩, g5⟩, g6⟩ := h5
  simp [Cond.before, Cond.holds, Cond.value, h1, h2, h3, h4, g1, g2, g3, g4, g5, g6]
def isCode : Jvm.Cond → Bool
  | .code _ _ _ _ => true
  | _ => false
theorem all_split {L : List Jvm.Cond} {P : Jvm.Cond → Bool} (h1 : L.all (fun c => isCode c || P c) = true) (h2 : ∀ c ∈ L.filter isCode, P c = true) : L.all P = true := by
  refine List.all_eq_true.mpr fun c hc => ?_
  have h := List.all_eq_true.mp h1 c hc
  rcases Bool.eq_false_or_eq_true (isCode c) with hi | hi
  · exact h2 c (List.mem_filter.mpr ⟨hc, hi⟩)
  · simpa [hi] using h
set_option maxRecDepth 65536 in
theorem w_c0 : (Jvm.Cond.code x code maxLocals ret).before args0 about1 = true := code_word (m := ⟨1, 2⟩) (meth := k1m2) (c := k1c2) (by decide +kernel) rfl rfl rfl (by decide +kernel)
set_option maxRecDepth 65536 in
theorem w_c1 : (Jvm.Cond.code ({ cls := "com/example/vouchpoint/vouchpoint/identity/VerifiedReasonCountsAsVerifiedPinLaw", name := "pick", desc := "(I)Lcom/example/vouchpoint/vouchpoint/identity/VerifiedReason;" } : Jvm.MethodName) method_2_code (1 : Nat) (Option.some (Jvm.ClassFile.FieldType.object "com/example/vouchpoint/vouchpoint/identity/VerifiedReason"))).before args0 about1 = true := code_word (m := ⟨1, 1⟩) (meth := k1m1) (c := k1c1) (by decide +kernel) rfl rfl rfl (by decide +kernel)
set_option maxRecDepth 65536 in
theorem w_c2 : (Jvm.Cond.code ({ cls := "com/example/vouchpoint/vouchpoint/identity/VerifiedReason", name := "countsAsVerified", desc := "(Z)Z" } : Jvm.MethodName) prog_15_method_5_code (2 : Nat) (Option.some Jvm.ClassFile.FieldType.boolean)).before args0 about1 = true := code_word (m := ⟨7, 0⟩) (meth := k7m0) (c := k7c0) (by decide +kernel) rfl rfl rfl (by decide +kernel)
def codes1 : List Jvm.Cond := [Jvm.Cond.code x code maxLocals ret, Jvm.Cond.code ({ cls := "com/example/vouchpoint/vouchpoint/identity/VerifiedReasonCountsAsVerifiedPinLaw", name := "pick", desc := "(I)Lcom/example/vouchpoint/vouchpoint/identity/VerifiedReason;" } : Jvm.MethodName) method_2_code (1 : Nat) (Option.some (Jvm.ClassFile.FieldType.object "com/example/vouchpoint/vouchpoint/identity/VerifiedReason")), Jvm.Cond.code ({ cls := "com/example/vouchpoint/vouchpoint/identity/VerifiedReason", name := "countsAsVerified", desc := "(Z)Z" } : Jvm.MethodName) prog_15_method_5_code (2 : Nat) (Option.some Jvm.ClassFile.FieldType.boolean)]
set_option maxRecDepth 65536 in
theorem codes_eq : words1.filter isCode = codes1 := rfl
theorem w_codes : ∀ c ∈ words1.filter isCode, c.before args0 about1 = true := by
  rw [codes_eq]
  intro c hc
  simp only [codes1, List.mem_cons, List.not_mem_nil, or_false] at hc
  rcases hc with rfl | rfl | rfl
  · exact w_c0
  · exact w_c1
  · exact w_c2
set_option maxRecDepth 65536 in
theorem w_t1 : (words1.take 24).all (fun c => isCode c || c.before args0 about1) = true := by decide +kernel
set_option maxRecDepth 65536 in
theorem w_t2 : (words1.drop 24).all (fun c => isCode c || c.before args0 about1) = true := by decide +kernel
theorem w_tables : (allAtoms (Jvm.Cond.code x code maxLocals ret :: tables_1)).before args0 about1 = true := by
  rw [allAtoms_all]
  show words1.all (fun c => c.before args0 about1) = true
  refine all_split ?_ w_codes
  rw [← List.take_append_drop 24 words1, List.all_append, w_t1, w_t2]
  rfl
set_option maxRecDepth 65536 in
theorem w_case : (Jvm.Cond.and given_1 narrow_1).before args0 about1 = true := by decide +kernel
theorem w_applies : (headSpec (Jvm.Cond.code x code maxLocals ret :: tables_1) room_1).applies x e0.platform about1 = true :=
  (Spec.applies_iff w_frames).mpr ⟨w_running, w_runnable, w_alone, w_named, w_hears, w_ripe, w_room, w_tables⟩
theorem atStart : AtStart classFile x code maxLocals ret World_1 tables_1 room_1 Calls_1 rest_1 Pre_1 launch0 p0 e0 about1 theMethod args0 below0 :=
  ⟨lists_1, trivial, launch0.admits_env _ _ _, launch0.least_env, fairChoices_fair.cas, fairChoices_fair.clock, w_frames, w_args, w_heap, w_applies, trivial, trivial, w_case⟩
end start1
theorem witness_1 : WitnessClaimed_1 := ⟨start1.p0, start1.e0, start1.about1, start1.theMethod, start1.args0, start1.below0, start1.atStart⟩
end Jvm.Pilot.@@N@@
