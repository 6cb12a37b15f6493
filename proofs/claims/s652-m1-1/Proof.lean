import JvmDerived
import JvmDerived.Pilot.@@N@@Statement
import JvmDerived.Pilot.@@N@@Code
set_option linter.unusedVariables false
set_option linter.unusedSimpArgs false
@@BLOCK:NumsL.lean.txt@@
namespace Jvm.RoadKit
open Sem ClassFile Op Lib Jvm.Stand Jvm.Free Jvm.LawKit
section Own
variable {p : Program} {l : Launch} {e : Env} {R : Room} {s : State} {m : MethodId} {args : Array Value} {below : List Frame} {meth : Method} {c : Code} {T T' : State} {locs : List Loc} {cells slots : Nat}
theorem retI (X : Stand p l e R s m args below meth c T locs cells slots) (hx : p.tables.exec = Jvm.exec) {pc : Nat} {Ls : Array Slot} {z : Int32} {rest : List Value} (hret : meth.sig.returnType = some .int) (hd : decode c.code pc = .ok (.ireturn, 1)) {fs : List Frame}
    (hl : ∀ (f : JFrame) (acts : List Action), f.method = m → f.locked = none → f.entered = [] → (doReturn e (T.setTop f) acts (some (.int z))).1 = T.setFrames fs) : Steps p.tables e below (T.setTop (mkF m pc Ls (.int z :: rest))) (T.setFrames fs) := by
  have hm' : T.vm.method? m = some meth := X.method'
  have hn : narrow .int (.int z) = .int z := rfl
  show Steps p.tables e below (T.setTop { method := m, pc := pc, locals := Ls, stack := _ :: rest, locked := none }) _
  jvm_step X.here [X.here.top, hx, hd, hm', hret, hn]
  first | (intro acts; rw [hl _ acts rfl rfl rfl]) | rw [hl _ _ rfl rfl rfl]
  exact Steps.refl _
/-- what is left of a walk: it comes to an end at which K holds -/
def own_Go (p : Program) (e : Env) (below : List Frame) (K : Outcome → State → Prop) (T : State) (g : JFrame) : Prop := ∃ s₂ o, Steps p.tables e below (T.setTop g) s₂ ∧ s₂.status = .running ∧ Ended s₂ below o ∧ K o s₂
def own_K (s : State) (Q : Option Value → Heap → List Loc → Prop) (C S : Nat) (o : Outcome) (U' : State) : Prop := ∃ v L, o = .returned v ∧ Q v U'.heap L ∧ FrameEnd s o U' L C S
variable {K : Outcome → State → Prop} {g g' : JFrame} {Q : Option Value → Heap → List Loc → Prop} {C S : Nat}
theorem own_st (st : ∀ target, Steps p.tables e below (T'.setTop g') target → Steps p.tables e below (T.setTop g) target) (k : own_Go p e below K T' g') : own_Go p e below K T g := by
  obtain ⟨s2, o, h1, h2⟩ := k
  exact ⟨s2, o, st _ h1, h2⟩
theorem own_tr (st : Steps p.tables e below (T.setTop g) (T'.setTop g')) (k : own_Go p e below K T' g') : own_Go p e below K T g := by
  obtain ⟨s2, o, h1, h2⟩ := k
  exact ⟨s2, o, st.trans h1, h2⟩
theorem own_end (X : Stand p l e R s m args below meth c T locs cells slots) (hlk : meth.locks = false) {v : Option Value} (hv : meth.sig.returnType = none → v = none)
    (hst : ∀ fs, (∀ (f : JFrame) (acts : List Action), f.method = m → f.locked = none → f.entered = [] → (doReturn e (T.setTop f) acts v).1 = T.setFrames fs) → Steps p.tables e below (T.setTop g) (T.setFrames fs)) (hc : cells ≤ C) (hs : slots ≤ S) (hQ : Q v T.heap locs) :
    own_Go p e below (own_K s Q C S) T g := by
  obtain ⟨fs, hr, hrun, hended, hW, hsame⟩ := X.leave (v := v) hv hlk
  exact ⟨_, _, hst fs hr, hrun, hended, _, _, rfl, hQ, ⟨_, rfl⟩, hW, hsame.mono hc hs⟩
theorem own_retI (X : Stand p l e R s m args below meth c T locs cells slots) (hx : p.tables.exec = Jvm.exec) (hlk : meth.locks = false) {pc : Nat} {Ls : Array Slot} {z : Int32} {rest : List Value} (hret : meth.sig.returnType = some .int) (hd : decode c.code pc = .ok (.ireturn, 1)) (hc : cells ≤ C) (hs : slots ≤ S) (hQ : Q (some (.int z)) T.heap locs) :
    own_Go p e below (own_K s Q C S) T (mkF m pc Ls (.int z :: rest)) := own_end X hlk (fun h => by rw [hret] at h; cases h) (fun fs hr => retI X hx hret hd hr) hc hs hQ
theorem own_retN (X : Stand p l e R s m args below meth c T locs cells slots) (hx : p.tables.exec = Jvm.exec) (hlk : meth.locks = false) {pc : Nat} {Ls : Array Slot} {z : Int32} {t : FieldType} {rest : List Value} (hret : meth.sig.returnType = some t) (ht : t = .boolean ∨ t = .byte ∨ t = .char ∨ t = .short) (hd : decode c.code pc = .ok (.ireturn, 1)) (hc : cells ≤ C) (hs : slots ≤ S) (hQ : Q (some (.int (nar t z))) T.heap locs) :
    own_Go p e below (own_K s Q C S) T (mkF m pc Ls (.int z :: rest)) := own_end X hlk (fun h => by rw [hret] at h; cases h) (fun fs hr => retN X hx hret ht hd hr) hc hs hQ
theorem own_retA (X : Stand p l e R s m args below meth c T locs cells slots) (hx : p.tables.exec = Jvm.exec) (hlk : meth.locks = false) {pc : Nat} {Ls : Array Slot} {v : Value} {t : FieldType} {rest : List Value} (hret : meth.sig.returnType = some t) (ht : t.isReference = true) (hv : v.isRef = true) (hd : decode c.code pc = .ok (.areturn, 1)) (hc : cells ≤ C) (hs : slots ≤ S) (hQ : Q (some v) T.heap locs) :
    own_Go p e below (own_K s Q C S) T (mkF m pc Ls (v :: rest)) := own_end X hlk (fun h => by rw [hret] at h; cases h) (fun fs hr => retOut X hx hret (by cases t <;> first | (cases ht; done) | (cases v <;> first | rfl | (cases hv; done))) (Or.inr (Or.inr (Or.inr (Or.inr ⟨rfl, ht, hv⟩)))) hd hr) hc hs hQ
theorem own_retL (X : Stand p l e R s m args below meth c T locs cells slots) (hx : p.tables.exec = Jvm.exec) (hlk : meth.locks = false) {pc : Nat} {Ls : Array Slot} {w : Int64} (hret : meth.sig.returnType = some .long) (hd : decode c.code pc = .ok (.lreturn, 1)) (hc : cells ≤ C) (hs : slots ≤ S) (hQ : Q (some (.long w)) T.heap locs) :
    own_Go p e below (own_K s Q C S) T (mkF m pc Ls [.long w]) := own_end X hlk (fun h => by rw [hret] at h; cases h) (fun fs hr => X.lreturnOut hx hret hd hr) hc hs hQ
theorem own_ret (X : Stand p l e R s m args below meth c T locs cells slots) (hx : p.tables.exec = Jvm.exec) (hlk : meth.locks = false) {pc : Nat} {Ls : Array Slot} (hret : meth.sig.returnType = none) (hd : decode c.code pc = .ok (.return_, 1)) (hc : cells ≤ C) (hs : slots ≤ S) (hQ : Q none T.heap locs) :
    own_Go p e below (own_K s Q C S) T (mkF m pc Ls []) := own_end X hlk (fun _ => rfl) (fun fs hr => X.returnOut hx hret hd hr) hc hs hQ
variable {Z : State} {h : Heap} {a : Addr} {k : ClassId} {ty : FieldType} {z j : Int32} {vs : List Value} {dv v : Value} {rest : List Value} {target : State}
theorem own_len (X : Stand p l e R s m args below meth c T locs cells slots) (hx : p.tables.exec = Jvm.exec) (hZ : Z.Warmed39 s.vm) (eT : T.heap = h) (F : Arv Z h a k ty z vs dv) (hg : g.method = m) (hs : g.stack = .ref a :: rest) (hd : decode c.code g.pc = .ok (.arraylength, 1))
    (hr : Steps p.tables e below (T.setTop { g with pc := g.pc + 1, stack := .int z :: rest }) target) : Steps p.tables e below (T.setTop g) target := by
  obtain ⟨cl, A, -, S, q, -, -⟩ := F
  refine X.arraylength hx (by rw [eT]; exact A.1) (State.isArrayOf_alike hZ.alike A.2.1) hg hs hd _ ?_
  rw [len_of S q]
  exact hr
theorem own_ldR (X : Stand p l e R s m args below meth c T locs cells slots) (hx : p.tables.exec = Jvm.exec) (hZ : Z.Warmed39 s.vm) (eT : T.heap = h) (F : Arv Z h a k ty z vs dv) (hty : ty.isReference = true) (hj : ¬ j < 0 ∧ j < z) (hv : vs.getD j.toNatClampNeg dv = v) (hg : g.method = m) (hs : g.stack = .int j :: .ref a :: rest) (hd : decode c.code g.pc = .ok (.aaload, 1))
    (hr : Steps p.tables e below (T.setTop { g with pc := g.pc + 1, stack := v :: rest }) target) : Steps p.tables e below (T.setTop g) target := by
  obtain ⟨cl, A, -, S, q, H, -⟩ := F
  exact X.aaload hx (by rw [eT]; exact A.1) (State.isArrayOf_alike hZ.alike A.2.1) hty A.2.2 (inb_of S hj) (H.at (inb_of S hj) hv) hg hs hd _ hr
theorem own_ldB (X : Stand p l e R s m args below meth c T locs cells slots) (hx : p.tables.exec = Jvm.exec) (hZ : Z.Warmed39 s.vm) (eT : T.heap = h) (F : Arv Z h a k .byte z vs dv) (hj : ¬ j < 0 ∧ j < z) (hv : vs.getD j.toNatClampNeg dv = v) (hg : g.method = m) (hs : g.stack = .int j :: .ref a :: rest) (hd : decode c.code g.pc = .ok (.baload, 1))
    (hr : Steps p.tables e below (T.setTop { g with pc := g.pc + 1, stack := v :: rest }) target) : Steps p.tables e below (T.setTop g) target := by
  obtain ⟨cl, A, -, S, q, H, -⟩ := F
  exact X.baloadBytes hx (by rw [eT]; exact A.1) (State.isArrayOf_alike hZ.alike A.2.1) A.2.2 (inb_of S hj) (H.at (inb_of S hj) hv) hg hs hd _ hr
theorem own_ldJ (X : Stand p l e R s m args below meth c T locs cells slots) (hx : p.tables.exec = Jvm.exec) (hZ : Z.Warmed39 s.vm) (eT : T.heap = h) (F : Arv Z h a k .long z vs dv) (hj : ¬ j < 0 ∧ j < z) (hv : vs.getD j.toNatClampNeg dv = v) (hg : g.method = m) (hs : g.stack = .int j :: .ref a :: rest) (hd : decode c.code g.pc = .ok (.laload, 1))
    (hr : Steps p.tables e below (T.setTop { g with pc := g.pc + 1, stack := v :: rest }) target) : Steps p.tables e below (T.setTop g) target := by
  obtain ⟨cl, A, -, S, q, H, -⟩ := F
  exact X.laload hx (by rw [eT]; exact A.1) (State.isArrayOf_alike hZ.alike A.2.1) A.2.2 (inb_of S hj) (H.at (inb_of S hj) hv) hg hs hd _ hr
theorem own_stB (X : Stand p l e R s m args below meth c T locs cells slots) (hx : p.tables.exec = Jvm.exec) (hZ : Z.Warmed39 s.vm) (eT : T.heap = h) (F : Arv Z h a k .byte z vs dv) {x : Int32} (hj : ¬ j < 0 ∧ j < z) (i : Nat) (hi : j.toNatClampNeg = i) (hl : i < vs.length) (hg : g.method = m) (hs : g.stack = .int x :: .int j :: .ref a :: rest) (hd : decode c.code g.pc = .ok (.bastore, 1)) :
    ∃ T' h', Stand p l e R s m args below meth c T' (locs ++ [⟨a, j.toNatClampNeg⟩]) cells slots ∧ T'.heap = h' ∧ Wr h h' a j.toNatClampNeg (.int (nar .byte x)) ∧ Arv Z h' a k .byte z (vs.set i (.int x.toInt8.toInt32)) dv ∧ ∀ target, Steps p.tables e below (T'.setTop { g with pc := g.pc + 1, stack := rest }) target → Steps p.tables e below (T.setTop g) target := by
  obtain ⟨cl, A, q1, S, q3, H, G⟩ := F
  obtain ⟨T', h', X', e', W, st⟩ := stB X hx hZ eT A (inb_of S hj) hg hs hd
  exact ⟨T', h', X', e', W, Arv.set A q1 S q3 H G (fits_nar_byte _) W i hi hl, st⟩
theorem own_pushB (X : Stand p l e R s m args below meth c T locs cells slots) (hx : p.tables.exec = Jvm.exec) (hZ : Z.Warmed39 s.vm) (eT : T.heap = h) (F : Arv Z h a k .byte z vs dv) {x : Int32} (hj : ¬ j < 0 ∧ j < z) (hi : j.toNatClampNeg = vs.length) (hg : g.method = m) (hs : g.stack = .int x :: .int j :: .ref a :: rest) (hd : decode c.code g.pc = .ok (.bastore, 1)) :
    ∃ T' h', Stand p l e R s m args below meth c T' (locs ++ [⟨a, j.toNatClampNeg⟩]) cells slots ∧ T'.heap = h' ∧ Wr h h' a j.toNatClampNeg (.int (nar .byte x)) ∧ Arv Z h' a k .byte z (vs ++ [.int x.toInt8.toInt32]) dv ∧ ∀ target, Steps p.tables e below (T'.setTop { g with pc := g.pc + 1, stack := rest }) target → Steps p.tables e below (T.setTop g) target := by
  have F' : Arv Z h a k .byte z (vs ++ List.replicate 1 dv) dv := F.pad (pad_rep vs dv 1)
  obtain ⟨cl, A, q1, S, q3, H, G⟩ := F'
  obtain ⟨T', h', X', e', W, st⟩ := stB X hx hZ eT A (inb_of S hj) hg hs hd
  have V := Arv.set A q1 S q3 H G (fits_nar_byte _) W vs.length hi (by simp)
  have e : (vs ++ List.replicate 1 dv).set vs.length (.int x.toInt8.toInt32) = vs ++ [.int x.toInt8.toInt32] := by simp
  exact ⟨T', h', X', e', W, e ▸ V, st⟩
theorem own_stJ (X : Stand p l e R s m args below meth c T locs cells slots) (hx : p.tables.exec = Jvm.exec) (hZ : Z.Warmed39 s.vm) (eT : T.heap = h) (F : Arv Z h a k .long z vs dv) {x : Int64} (hj : ¬ j < 0 ∧ j < z) (i : Nat) (hi : j.toNatClampNeg = i) (hl : i < vs.length) (hg : g.method = m) (hs : g.stack = .long x :: .int j :: .ref a :: rest) (hd : decode c.code g.pc = .ok (.lastore, 1)) :
    ∃ T' h', Stand p l e R s m args below meth c T' (locs ++ [⟨a, j.toNatClampNeg⟩]) cells slots ∧ T'.heap = h' ∧ Wr h h' a j.toNatClampNeg (.long x) ∧ Arv Z h' a k .long z (vs.set i (.long x)) dv ∧ ∀ target, Steps p.tables e below (T'.setTop { g with pc := g.pc + 1, stack := rest }) target → Steps p.tables e below (T.setTop g) target := by
  obtain ⟨cl, A, q1, S, q3, H, G⟩ := F
  obtain ⟨T', h', X', e', W, st⟩ := stJ X hx hZ eT A (inb_of S hj) hg hs hd
  exact ⟨T', h', X', e', W, Arv.set A q1 S q3 H G rfl W i hi hl, st⟩
theorem own_stR (X : Stand p l e R s m args below meth c T locs cells slots) (hx : p.tables.exec = Jvm.exec) (hZ : Z.Warmed39 s.vm) (eT : T.heap = h) {C : String} (F : Arv Z h a k (.object C) z vs dv) {b : Addr} (O : Ovr Z k C) (I : Ins Z h b C true) (hj : ¬ j < 0 ∧ j < z) (i : Nat) (hi : j.toNatClampNeg = i) (hl : i < vs.length) (hg : g.method = m) (hs : g.stack = .ref b :: .int j :: .ref a :: rest) (hd : decode c.code g.pc = .ok (.aastore, 1)) :
    ∃ T' h', Stand p l e R s m args below meth c T' (locs ++ [⟨a, j.toNatClampNeg⟩]) cells slots ∧ T'.heap = h' ∧ Wr h h' a j.toNatClampNeg (.ref b) ∧ Arv Z h' a k (.object C) z (vs.set i (.ref b)) dv ∧ ∀ target, Steps p.tables e below (T'.setTop { g with pc := g.pc + 1, stack := rest }) target → Steps p.tables e below (T.setTop g) target := by
  obtain ⟨cl, A, q1, S, q3, H, G⟩ := F
  obtain ⟨T', h', X', e', W, st⟩ := stR X hx hZ eT A (inb_of S hj) rfl (Sto.ofV A q1 O I) hg hs hd
  exact ⟨T', h', X', e', W, Arv.set A q1 S q3 H G rfl W i hi hl, st⟩
end Own
end Jvm.RoadKit
namespace Jvm.Pilot.@@N@@
open Jvm Jvm.ClassFile Sem Op Lib Jvm.Free Jvm.Stand Jvm.LawKit Jvm.RoadKit Bundle Jvm.Pilot.@@N@@.Jvm.D
theorem own_eq_int {args : Array Value} {first s : State} {o : Option Outcome} {idx : List Nat} {t : Term} {k : Int32} (h : (Cond.eq t (.int k)).value args first o s idx = some true) : t.eval args first o idx s = some (.int k) := by
  cases ht : t.eval args first o idx s with
  | none => simp [Cond.value, ht] at h
  | some x => cases x <;> simp [Cond.value, Term.eval, ht] at h ⊢; exact h
theorem own_eq_ref {args : Array Value} {first s : State} {o : Option Outcome} {idx : List Nat} {t u : Term} {a : Addr} (hu : u.eval args first o idx s = some (.ref a)) (h : (Cond.eq t u).value args first o s idx = some true) : t.eval args first o idx s = some (.ref a) := by
  cases ht : t.eval args first o idx s with
  | none => simp [Cond.value, ht] at h
  | some x => cases x <;> simp [Cond.value, ht, hu] at h ⊢; exact h
theorem own_arr_start {args : Array Value} {Z : State} {t : Term} {a : Addr} {ty : FieldType} {z : Int32} (ev : t.eval args Z none [] Z = some (.ref a)) (ha : (Cond.arrayOf t ty).value args Z none Z [] = some true) (hl : (Cond.eq (.length t) (.int z)).value args Z none Z [] = some true) : ∃ c, Arr Z Z.heap a c ty ∧ c.slots.size < 2 ^ 31 ∧ c.slots.size.toInt32 = z := by
  obtain ⟨c, A⟩ := Arr.start ev ha
  have hq := own_eq_int hl
  have hc : Z.arrayAt? a = some c := A.fin (Vm.Alike.refl _)
  refine ⟨c, A, ?_⟩
  simp only [Term.eval, ev, hc, Option.bind_eq_bind, Option.bind_some] at hq
  split at hq
  · rename_i hlt
    simp only [Option.pure_def, Option.some.injEq, Value.int.injEq] at hq
    exact ⟨hlt, hq⟩
  · cases hq
theorem own_pn0 : plainName "com/example/request_session_scope/requestsessionscope/PropagationModePinLaw" = true := by first | (simp [plainName, overriddenIn]; done) | decide +kernel
theorem own_pn1 : plainName "com/example/request_session_scope/requestsessionscope/Propagation" = true := by first | (simp [plainName, overriddenIn]; done) | decide +kernel
theorem own_pd0 : parseMethodDescriptor "(I)Lcom/example/request_session_scope/requestsessionscope/Propagation;" = some ⟨[.int], some (.object "com/example/request_session_scope/requestsessionscope/Propagation")⟩ := by decide +kernel
theorem own_pd1 : parseMethodDescriptor "(Z)Lcom/example/request_session_scope/requestsessionscope/Propagation$Mode;" = some ⟨[.boolean], some (.object "com/example/request_session_scope/requestsessionscope/Propagation$Mode")⟩ := by decide +kernel
theorem own_dp_0 : decode method_2_code 0 = .ok (.iload_n 0, 1) := by decide +kernel
theorem own_dp_1 : decode method_2_code 1 = .ok (.ifCond .ne 7, 3) := by decide +kernel
theorem own_dp_4 : decode method_2_code 4 = .ok (.getstatic 7, 3) := by decide +kernel
theorem own_dp_7 : decode method_2_code 7 = .ok (.areturn, 1) := by decide +kernel
theorem own_dp_8 : decode method_2_code 8 = .ok (.iload_n 0, 1) := by decide +kernel
theorem own_dp_9 : decode method_2_code 9 = .ok (.iconst 1, 1) := by decide +kernel
theorem own_dp_10 : decode method_2_code 10 = .ok (.if_icmp .ne 7, 3) := by decide +kernel
theorem own_dp_13 : decode method_2_code 13 = .ok (.getstatic 13, 3) := by decide +kernel
theorem own_dp_16 : decode method_2_code 16 = .ok (.areturn, 1) := by decide +kernel
theorem own_dp_17 : decode method_2_code 17 = .ok (.iload_n 0, 1) := by decide +kernel
theorem own_dp_18 : decode method_2_code 18 = .ok (.iconst 2, 1) := by decide +kernel
theorem own_dp_19 : decode method_2_code 19 = .ok (.if_icmp .ne 7, 3) := by decide +kernel
theorem own_dp_22 : decode method_2_code 22 = .ok (.getstatic 16, 3) := by decide +kernel
theorem own_dp_25 : decode method_2_code 25 = .ok (.areturn, 1) := by decide +kernel
theorem own_dp_26 : decode method_2_code 26 = .ok (.iload_n 0, 1) := by decide +kernel
theorem own_dp_27 : decode method_2_code 27 = .ok (.iconst 3, 1) := by decide +kernel
theorem own_dp_28 : decode method_2_code 28 = .ok (.if_icmp .ne 7, 3) := by decide +kernel
theorem own_dp_31 : decode method_2_code 31 = .ok (.getstatic 19, 3) := by decide +kernel
theorem own_dp_34 : decode method_2_code 34 = .ok (.areturn, 1) := by decide +kernel
theorem own_dp_35 : decode method_2_code 35 = .ok (.iload_n 0, 1) := by decide +kernel
theorem own_dp_36 : decode method_2_code 36 = .ok (.iconst 4, 1) := by decide +kernel
theorem own_dp_37 : decode method_2_code 37 = .ok (.if_icmp .ne 7, 3) := by decide +kernel
theorem own_dp_40 : decode method_2_code 40 = .ok (.getstatic 22, 3) := by decide +kernel
theorem own_dp_43 : decode method_2_code 43 = .ok (.areturn, 1) := by decide +kernel
theorem own_dp_44 : decode method_2_code 44 = .ok (.iload_n 0, 1) := by decide +kernel
theorem own_dp_45 : decode method_2_code 45 = .ok (.iconst 5, 1) := by decide +kernel
theorem own_dp_46 : decode method_2_code 46 = .ok (.if_icmp .ne 7, 3) := by decide +kernel
theorem own_dp_49 : decode method_2_code 49 = .ok (.getstatic 25, 3) := by decide +kernel
theorem own_dp_52 : decode method_2_code 52 = .ok (.areturn, 1) := by decide +kernel
theorem own_dp_53 : decode method_2_code 53 = .ok (.getstatic 28, 3) := by decide +kernel
theorem own_dp_56 : decode method_2_code 56 = .ok (.areturn, 1) := by decide +kernel
theorem own_dm_0 : decode prog_14_method_4_code 0 = .ok (.iload_n 1, 1) := by decide +kernel
theorem own_dm_1 : decode prog_14_method_4_code 1 = .ok (.ifCond .eq 10, 3) := by decide +kernel
theorem own_dm_4 : decode prog_14_method_4_code 4 = .ok (.aload_n 0, 1) := by decide +kernel
theorem own_dm_5 : decode prog_14_method_4_code 5 = .ok (.getfield 44, 3) := by decide +kernel
theorem own_dm_8 : decode prog_14_method_4_code 8 = .ok (.goto 7, 3) := by decide +kernel
theorem own_dm_11 : decode prog_14_method_4_code 11 = .ok (.aload_n 0, 1) := by decide +kernel
theorem own_dm_12 : decode prog_14_method_4_code 12 = .ok (.getfield 48, 3) := by decide +kernel
theorem own_dm_15 : decode prog_14_method_4_code 15 = .ok (.areturn, 1) := by decide +kernel
def own_pick (w_PREQUIRED w_PREQUIRES_NEW w_PMANDATORY w_PNESTED w_PSUPPORTS w_PNOT_SUPPORTED w_PNEVER : Addr) (i : Int32) : Addr := if i = 0 then w_PREQUIRED else if i = 1 then w_PREQUIRES_NEW else if i = 2 then w_PMANDATORY else if i = 3 then w_PNESTED else if i = 4 then w_PSUPPORTS else if i = 5 then w_PNOT_SUPPORTED else w_PNEVER
def own_in (w_MNEW_TRANSACTION w_MNESTED w_MWITHOUT_TRANSACTION w_MREFUSED w_MIN_CALLERS : Addr) (i : Int32) : Addr := if i = 1 then w_MNEW_TRANSACTION else if i = 3 then w_MNESTED else if i = 5 then w_MWITHOUT_TRANSACTION else if i = 6 then w_MREFUSED else w_MIN_CALLERS
def own_out (w_MNEW_TRANSACTION w_MNESTED w_MWITHOUT_TRANSACTION w_MREFUSED w_MIN_CALLERS : Addr) (i : Int32) : Addr := if i = 2 then w_MREFUSED else if (3 : Int32) < i then w_MIN_CALLERS else w_MNEW_TRANSACTION
theorem own_ef_pick (m : MethodId) (x0 : Int32) : entryFrame m #[(.int x0)] 1 = mkF m 0 #[.val (.int x0)] [] := by first | (simp [entryFrame, mkF, argsToLocals, Value.category]; done) | rfl
def own_Q_pick (Z : State) (i : Int32) (w_PREQUIRED : Addr) (w_PREQUIRES_NEW : Addr) (w_PMANDATORY : Addr) (w_PNESTED : Addr) (w_PSUPPORTS : Addr) (w_PNOT_SUPPORTED : Addr) (w_PNEVER : Addr) (h0 : Heap) (n0 : Nat) (v : Option Value) (h : Heap) (L : List Loc) : Prop := v = some (.ref (own_pick w_PREQUIRED w_PREQUIRES_NEW w_PMANDATORY w_PNESTED w_PSUPPORTS w_PNOT_SUPPORTED w_PNEVER i)) ∧ Fr n0 L ∧ h = h0
set_option maxRecDepth 65536 in
set_option maxHeartbeats 40000000 in
theorem own_rm_pick (l : Launch) (Z : State) (a0 : Array Value) (hw : ∀ d ∈ tables_1, d.before a0 Z = true) (ws : List Jvm.Cond) (i : Int32) (w_PREQUIRED : Addr) (w_PREQUIRES_NEW : Addr) (w_PMANDATORY : Addr) (w_PNESTED : Addr) (w_PSUPPORTS : Addr) (w_PNOT_SUPPORTED : Addr) (w_PNEVER : Addr) (h0 : Heap) (n0 : Nat) (Z0 : n0 ≤ h0.size) (S_PREQUIRED : Sta Z h0 "com/example/request_session_scope/requestsessionscope/Propagation" "REQUIRED" "Lcom/example/request_session_scope/requestsessionscope/Propagation;" (.ref w_PREQUIRED)) (S_PREQUIRES_NEW : Sta Z h0 "com/example/request_session_scope/requestsessionscope/Propagation" "REQUIRES_NEW" "Lcom/example/request_session_scope/requestsessionscope/Propagation;" (.ref w_PREQUIRES_NEW)) (S_PMANDATORY : Sta Z h0 "com/example/request_session_scope/requestsessionscope/Propagation" "MANDATORY" "Lcom/example/request_session_scope/requestsessionscope/Propagation;" (.ref w_PMANDATORY)) (S_PNESTED : Sta Z h0 "com/example/request_session_scope/requestsessionscope/Propagation" "NESTED" "Lcom/example/request_session_scope/requestsessionscope/Propagation;" (.ref w_PNESTED)) (S_PSUPPORTS : Sta Z h0 "com/example/request_session_scope/requestsessionscope/Propagation" "SUPPORTS" "Lcom/example/request_session_scope/requestsessionscope/Propagation;" (.ref w_PSUPPORTS)) (S_PNOT_SUPPORTED : Sta Z h0 "com/example/request_session_scope/requestsessionscope/Propagation" "NOT_SUPPORTED" "Lcom/example/request_session_scope/requestsessionscope/Propagation;" (.ref w_PNOT_SUPPORTED)) (S_PNEVER : Sta Z h0 "com/example/request_session_scope/requestsessionscope/Propagation" "NEVER" "Lcom/example/request_session_scope/requestsessionscope/Propagation;" (.ref w_PNEVER)) :
    MetFree l (⟨"com/example/request_session_scope/requestsessionscope/PropagationModePinLaw", "pick", "(I)Lcom/example/request_session_scope/requestsessionscope/Propagation;"⟩ : MethodName) (head1 (Jvm.Cond.code (⟨"com/example/request_session_scope/requestsessionscope/PropagationModePinLaw", "pick", "(I)Lcom/example/request_session_scope/requestsessionscope/Propagation;"⟩ : MethodName) method_2_code 1 (some (.object "com/example/request_session_scope/requestsessionscope/Propagation")) :: ws) ({ frames := 0, cells := 0, slots := 0, locals := 0 } : Room)) (fun zz U => zz = #[(.int i)] ∧ Z.Warmed39 U.vm ∧ U.heap = h0) (fun _ _ _ _ _ => True) (fun _ U o U' => ∃ v L, o = .returned v ∧ own_Q_pick Z i w_PREQUIRED w_PREQUIRES_NEW w_PMANDATORY w_PNESTED w_PSUPPORTS w_PNOT_SUPPORTED w_PNEVER h0 n0 v U'.heap L ∧ FrameEnd U o U' L ({ frames := 0, cells := 0, slots := 0, locals := 0 } : Room).cells ({ frames := 0, cells := 0, slots := 0, locals := 0 } : Room).slots) := by
  refine MetFree.of_bodySF (plainFor_of_name own_pn0) hisR ?_
  intro p e s m args below meth c s₁ Bd hml0 hP hK
  obtain ⟨rfl, hZ, hh⟩ := hP
  have hx := Bd.exec
  have hby := Bd.bytes
  have hml : c.maxLocals = 1 := hml0
  have hown : s.vm.findClass "com/example/request_session_scope/requestsessionscope/PropagationModePinLaw" = some m.cls := findClass_of_methodNamed Bd.named
  have hnm := (name_of_methodNamed Bd.named Bd.method).1
  have X0 : Stand p l e ({ frames := 0, cells := 0, slots := 0, locals := 0 } : Room) s m #[(.int i)] below meth c s₁ [] 0 0 := Stand.of_body Bd
  have e0 : s₁.heap = h0 := by rw [← hh, Bd.state]; rfl
  have N0 := Fr.nil n0
  show own_Go p e below (own_K s (own_Q_pick Z i w_PREQUIRED w_PREQUIRES_NEW w_PMANDATORY w_PNESTED w_PSUPPORTS w_PNOT_SUPPORTED w_PNEVER h0 n0) ({ frames := 0, cells := 0, slots := 0, locals := 0 } : Room).cells ({ frames := 0, cells := 0, slots := 0, locals := 0 } : Room).slots) s₁ (entryFrame m #[(.int i)] 1)
  rw [own_ef_pick m i]
  show own_Go p e below _ s₁ (mkF m 0 #[iv i] [])
  refine own_st (fun _ k => XS.iloadN X0.here hx rfl (hb hby own_dp_0) rfl k) ?_
  show own_Go p e below _ s₁ (mkF m 1 #[iv i] [(.int i)])
  by_cases c0 : i = 0
  · refine own_st (fun _ k => XS.ifNo X0.here hx rfl (hb hby own_dp_1) rfl (XT.i0_ne_f c0) k) ?_
    show own_Go p e below _ s₁ (mkF m 4 #[iv i] [])
    obtain ⟨T1, X1, e1, st1⟩ := getS2 X0 hx hZ hown (host := "") (Or.inl (hw _ (List.mem_of_getElem? (i := 5) rfl))) Via.refl e0 S_PREQUIRED (g := (mkF m 4 #[iv i] [])) rfl (hb hby own_dp_4)
    refine own_st st1 ?_
    show own_Go p e below _ T1 (mkF m 7 #[iv i] [(.ref w_PREQUIRED)])
    refine own_retA X1 hx Bd.notSynchronized Bd.returns rfl rfl (hb hby own_dp_7) (by decide) (by decide) ?_
    rw [e1]
    exact ⟨by simp [own_pick, c0], N0, rfl⟩
  · refine own_st (fun _ k => XS.ifYes X0.here hx rfl (pc0 := 1) (pc' := 8) rfl (hb hby own_dp_1) rfl (XT.i0_ne_t c0) (by decide) (by decide) k) ?_
    show own_Go p e below _ s₁ (mkF m 8 #[iv i] [])
    refine own_st (fun _ k => XS.iloadN X0.here hx rfl (hb hby own_dp_8) rfl k) ?_
    show own_Go p e below _ s₁ (mkF m 9 #[iv i] [(.int i)])
    refine own_st (fun _ k => XT.iconstV X0.here hx rfl (1 : Int32) (hb hby own_dp_9) (by decide) k) ?_
    show own_Go p e below _ s₁ (mkF m 10 #[iv i] [(.int 1), (.int i)])
    by_cases c1 : i = (1 : Int32)
    · refine own_st (fun _ k => XS.icmpNo X0.here hx rfl (hb hby own_dp_10) rfl (XT.ii_ne_f c1) k) ?_
      show own_Go p e below _ s₁ (mkF m 13 #[iv i] [])
      obtain ⟨T3, X3, e3, st3⟩ := getS2 X0 hx hZ hown (host := "") (Or.inl (hw _ (List.mem_of_getElem? (i := 22) rfl))) Via.refl e0 S_PREQUIRES_NEW (g := (mkF m 13 #[iv i] [])) rfl (hb hby own_dp_13)
      refine own_st st3 ?_
      show own_Go p e below _ T3 (mkF m 16 #[iv i] [(.ref w_PREQUIRES_NEW)])
      refine own_retA X3 hx Bd.notSynchronized Bd.returns rfl rfl (hb hby own_dp_16) (by decide) (by decide) ?_
      rw [e3]
      exact ⟨by simp [own_pick, c0, c1], N0, rfl⟩
    · refine own_st (fun _ k => XS.icmpYes X0.here hx rfl (pc0 := 10) (pc' := 17) rfl (hb hby own_dp_10) rfl (XT.ii_ne_t c1) (by decide) (by decide) k) ?_
      show own_Go p e below _ s₁ (mkF m 17 #[iv i] [])
      refine own_st (fun _ k => XS.iloadN X0.here hx rfl (hb hby own_dp_17) rfl k) ?_
      show own_Go p e below _ s₁ (mkF m 18 #[iv i] [(.int i)])
      refine own_st (fun _ k => XT.iconstV X0.here hx rfl (2 : Int32) (hb hby own_dp_18) (by decide) k) ?_
      show own_Go p e below _ s₁ (mkF m 19 #[iv i] [(.int 2), (.int i)])
      by_cases c2 : i = (2 : Int32)
      · refine own_st (fun _ k => XS.icmpNo X0.here hx rfl (hb hby own_dp_19) rfl (XT.ii_ne_f c2) k) ?_
        show own_Go p e below _ s₁ (mkF m 22 #[iv i] [])
        obtain ⟨T5, X5, e5, st5⟩ := getS2 X0 hx hZ hown (host := "") (Or.inl (hw _ (List.mem_of_getElem? (i := 36) rfl))) Via.refl e0 S_PMANDATORY (g := (mkF m 22 #[iv i] [])) rfl (hb hby own_dp_22)
        refine own_st st5 ?_
        show own_Go p e below _ T5 (mkF m 25 #[iv i] [(.ref w_PMANDATORY)])
        refine own_retA X5 hx Bd.notSynchronized Bd.returns rfl rfl (hb hby own_dp_25) (by decide) (by decide) ?_
        rw [e5]
        exact ⟨by simp [own_pick, c0, c1, c2], N0, rfl⟩
      · refine own_st (fun _ k => XS.icmpYes X0.here hx rfl (pc0 := 19) (pc' := 26) rfl (hb hby own_dp_19) rfl (XT.ii_ne_t c2) (by decide) (by decide) k) ?_
        show own_Go p e below _ s₁ (mkF m 26 #[iv i] [])
        refine own_st (fun _ k => XS.iloadN X0.here hx rfl (hb hby own_dp_26) rfl k) ?_
        show own_Go p e below _ s₁ (mkF m 27 #[iv i] [(.int i)])
        refine own_st (fun _ k => XT.iconstV X0.here hx rfl (3 : Int32) (hb hby own_dp_27) (by decide) k) ?_
        show own_Go p e below _ s₁ (mkF m 28 #[iv i] [(.int 3), (.int i)])
        by_cases c3 : i = (3 : Int32)
        · refine own_st (fun _ k => XS.icmpNo X0.here hx rfl (hb hby own_dp_28) rfl (XT.ii_ne_f c3) k) ?_
          show own_Go p e below _ s₁ (mkF m 31 #[iv i] [])
          obtain ⟨T7, X7, e7, st7⟩ := getS2 X0 hx hZ hown (host := "") (Or.inl (hw _ (List.mem_of_getElem? (i := 18) rfl))) Via.refl e0 S_PNESTED (g := (mkF m 31 #[iv i] [])) rfl (hb hby own_dp_31)
          refine own_st st7 ?_
          show own_Go p e below _ T7 (mkF m 34 #[iv i] [(.ref w_PNESTED)])
          refine own_retA X7 hx Bd.notSynchronized Bd.returns rfl rfl (hb hby own_dp_34) (by decide) (by decide) ?_
          rw [e7]
          exact ⟨by simp [own_pick, c0, c1, c2, c3], N0, rfl⟩
        · refine own_st (fun _ k => XS.icmpYes X0.here hx rfl (pc0 := 28) (pc' := 35) rfl (hb hby own_dp_28) rfl (XT.ii_ne_t c3) (by decide) (by decide) k) ?_
          show own_Go p e below _ s₁ (mkF m 35 #[iv i] [])
          refine own_st (fun _ k => XS.iloadN X0.here hx rfl (hb hby own_dp_35) rfl k) ?_
          show own_Go p e below _ s₁ (mkF m 36 #[iv i] [(.int i)])
          refine own_st (fun _ k => XT.iconstV X0.here hx rfl (4 : Int32) (hb hby own_dp_36) (by decide) k) ?_
          show own_Go p e below _ s₁ (mkF m 37 #[iv i] [(.int 4), (.int i)])
          by_cases c4 : i = (4 : Int32)
          · refine own_st (fun _ k => XS.icmpNo X0.here hx rfl (hb hby own_dp_37) rfl (XT.ii_ne_f c4) k) ?_
            show own_Go p e below _ s₁ (mkF m 40 #[iv i] [])
            obtain ⟨T9, X9, e9, st9⟩ := getS2 X0 hx hZ hown (host := "") (Or.inl (hw _ (List.mem_of_getElem? (i := 28) rfl))) Via.refl e0 S_PSUPPORTS (g := (mkF m 40 #[iv i] [])) rfl (hb hby own_dp_40)
            refine own_st st9 ?_
            show own_Go p e below _ T9 (mkF m 43 #[iv i] [(.ref w_PSUPPORTS)])
            refine own_retA X9 hx Bd.notSynchronized Bd.returns rfl rfl (hb hby own_dp_43) (by decide) (by decide) ?_
            rw [e9]
            exact ⟨by simp [own_pick, c0, c1, c2, c3, c4], N0, rfl⟩
          · refine own_st (fun _ k => XS.icmpYes X0.here hx rfl (pc0 := 37) (pc' := 44) rfl (hb hby own_dp_37) rfl (XT.ii_ne_t c4) (by decide) (by decide) k) ?_
            show own_Go p e below _ s₁ (mkF m 44 #[iv i] [])
            refine own_st (fun _ k => XS.iloadN X0.here hx rfl (hb hby own_dp_44) rfl k) ?_
            show own_Go p e below _ s₁ (mkF m 45 #[iv i] [(.int i)])
            refine own_st (fun _ k => XT.iconstV X0.here hx rfl (5 : Int32) (hb hby own_dp_45) (by decide) k) ?_
            show own_Go p e below _ s₁ (mkF m 46 #[iv i] [(.int 5), (.int i)])
            by_cases c5 : i = (5 : Int32)
            · refine own_st (fun _ k => XS.icmpNo X0.here hx rfl (hb hby own_dp_46) rfl (XT.ii_ne_f c5) k) ?_
              show own_Go p e below _ s₁ (mkF m 49 #[iv i] [])
              obtain ⟨T11, X11, e11, st11⟩ := getS2 X0 hx hZ hown (host := "") (Or.inl (hw _ (List.mem_of_getElem? (i := 32) rfl))) Via.refl e0 S_PNOT_SUPPORTED (g := (mkF m 49 #[iv i] [])) rfl (hb hby own_dp_49)
              refine own_st st11 ?_
              show own_Go p e below _ T11 (mkF m 52 #[iv i] [(.ref w_PNOT_SUPPORTED)])
              refine own_retA X11 hx Bd.notSynchronized Bd.returns rfl rfl (hb hby own_dp_52) (by decide) (by decide) ?_
              rw [e11]
              exact ⟨by simp [own_pick, c0, c1, c2, c3, c4, c5], N0, rfl⟩
            · refine own_st (fun _ k => XS.icmpYes X0.here hx rfl (pc0 := 46) (pc' := 53) rfl (hb hby own_dp_46) rfl (XT.ii_ne_t c5) (by decide) (by decide) k) ?_
              show own_Go p e below _ s₁ (mkF m 53 #[iv i] [])
              obtain ⟨T13, X13, e13, st13⟩ := getS2 X0 hx hZ hown (host := "") (Or.inl (hw _ (List.mem_of_getElem? (i := 30) rfl))) Via.refl e0 S_PNEVER (g := (mkF m 53 #[iv i] [])) rfl (hb hby own_dp_53)
              refine own_st st13 ?_
              show own_Go p e below _ T13 (mkF m 56 #[iv i] [(.ref w_PNEVER)])
              refine own_retA X13 hx Bd.notSynchronized Bd.returns rfl rfl (hb hby own_dp_56) (by decide) (by decide) ?_
              rw [e13]
              exact ⟨by simp [own_pick, c0, c1, c2, c3, c4, c5], N0, rfl⟩
theorem own_ef_mode (m : MethodId) (x0 : Addr) (x1 : Int32) : entryFrame m #[(.ref x0), (.int x1)] 2 = mkF m 0 #[.val (.ref x0), .val (.int x1)] [] := by first | (simp [entryFrame, mkF, argsToLocals, Value.category]; done) | rfl
def own_Q_mode (Z : State) (a : Addr) (f : Int32) (ri : Addr) (ro : Addr) (h0 : Heap) (n0 : Nat) (v : Option Value) (h : Heap) (L : List Loc) : Prop := v = some (.ref (if f = 0 then ro else ri)) ∧ Fr n0 L ∧ h = h0
set_option maxRecDepth 65536 in
set_option maxHeartbeats 40000000 in
theorem own_rm_mode (l : Launch) (Z : State) (a0 : Array Value) (hw : ∀ d ∈ tables_1, d.before a0 Z = true) (ws : List Jvm.Cond) (a : Addr) (f : Int32) (ri : Addr) (ro : Addr) (h0 : Heap) (n0 : Nat) (Z0 : n0 ≤ h0.size) (Fi : Fld Z h0 a "com/example/request_session_scope/requestsessionscope/Propagation" "inTransaction" "Lcom/example/request_session_scope/requestsessionscope/Propagation$Mode;" (.ref ri)) (Fo : Fld Z h0 a "com/example/request_session_scope/requestsessionscope/Propagation" "outsideTransaction" "Lcom/example/request_session_scope/requestsessionscope/Propagation$Mode;" (.ref ro)) :
    MetFree l (⟨"com/example/request_session_scope/requestsessionscope/Propagation", "mode", "(Z)Lcom/example/request_session_scope/requestsessionscope/Propagation$Mode;"⟩ : MethodName) (head1 (Jvm.Cond.code (⟨"com/example/request_session_scope/requestsessionscope/Propagation", "mode", "(Z)Lcom/example/request_session_scope/requestsessionscope/Propagation$Mode;"⟩ : MethodName) prog_14_method_4_code 2 (some (.object "com/example/request_session_scope/requestsessionscope/Propagation$Mode")) :: ws) ({ frames := 0, cells := 0, slots := 0, locals := 0 } : Room)) (fun zz U => zz = #[(.ref a), (.int f)] ∧ Z.Warmed39 U.vm ∧ U.heap = h0) (fun _ _ _ _ _ => True) (fun _ U o U' => ∃ v L, o = .returned v ∧ own_Q_mode Z a f ri ro h0 n0 v U'.heap L ∧ FrameEnd U o U' L ({ frames := 0, cells := 0, slots := 0, locals := 0 } : Room).cells ({ frames := 0, cells := 0, slots := 0, locals := 0 } : Room).slots) := by
  refine MetFree.of_bodySF (plainFor_of_name own_pn1) hisR ?_
  intro p e s m args below meth c s₁ Bd hml0 hP hK
  obtain ⟨rfl, hZ, hh⟩ := hP
  have hx := Bd.exec
  have hby := Bd.bytes
  have hml : c.maxLocals = 2 := hml0
  have hown : s.vm.findClass "com/example/request_session_scope/requestsessionscope/Propagation" = some m.cls := findClass_of_methodNamed Bd.named
  have hnm := (name_of_methodNamed Bd.named Bd.method).1
  have X0 : Stand p l e ({ frames := 0, cells := 0, slots := 0, locals := 0 } : Room) s m #[(.ref a), (.int f)] below meth c s₁ [] 0 0 := Stand.of_body Bd
  have e0 : s₁.heap = h0 := by rw [← hh, Bd.state]; rfl
  have N0 := Fr.nil n0
  show own_Go p e below (own_K s (own_Q_mode Z a f ri ro h0 n0) ({ frames := 0, cells := 0, slots := 0, locals := 0 } : Room).cells ({ frames := 0, cells := 0, slots := 0, locals := 0 } : Room).slots) s₁ (entryFrame m #[(.ref a), (.int f)] 2)
  rw [own_ef_mode m a f]
  show own_Go p e below _ s₁ (mkF m 0 #[rv a, iv f] [])
  refine own_st (fun _ k => XS.iloadN X0.here hx rfl (hb hby own_dm_0) rfl k) ?_
  show own_Go p e below _ s₁ (mkF m 1 #[rv a, iv f] [(.int f)])
  by_cases c1 : f = 0
  · refine own_st (fun _ k => XS.ifYes X0.here hx rfl (pc0 := 1) (pc' := 11) rfl (hb hby own_dm_1) rfl (XT.i0_eq_t c1) (by decide) (by decide) k) ?_
    show own_Go p e below _ s₁ (mkF m 11 #[rv a, iv f] [])
    refine own_st (fun _ k => XS.aloadN X0.here hx rfl (hb hby own_dm_11) rfl rfl k) ?_
    show own_Go p e below _ s₁ (mkF m 12 #[rv a, iv f] [(.ref a)])
    obtain ⟨T1, X1, e1, st1⟩ := getF X0 hx hZ hown (host := "") (Or.inl (hw _ (List.mem_of_getElem? (i := 26) rfl))) Via.refl e0 Fo (g := (mkF m 12 #[rv a, iv f] [(.ref a)])) rfl rfl (hb hby own_dm_12)
    refine own_st st1 ?_
    show own_Go p e below _ T1 (mkF m 15 #[rv a, iv f] [(.ref ro)])
    refine own_retA X1 hx Bd.notSynchronized Bd.returns rfl rfl (hb hby own_dm_15) (by decide) (by decide) ?_
    rw [e1]
    exact ⟨by simp [c1], N0, rfl⟩
  · refine own_st (fun _ k => XS.ifNo X0.here hx rfl (hb hby own_dm_1) rfl (XT.i0_eq_f c1) k) ?_
    show own_Go p e below _ s₁ (mkF m 4 #[rv a, iv f] [])
    refine own_st (fun _ k => XS.aloadN X0.here hx rfl (hb hby own_dm_4) rfl rfl k) ?_
    show own_Go p e below _ s₁ (mkF m 5 #[rv a, iv f] [(.ref a)])
    obtain ⟨T3, X3, e3, st3⟩ := getF X0 hx hZ hown (host := "") (Or.inl (hw _ (List.mem_of_getElem? (i := 16) rfl))) Via.refl e0 Fi (g := (mkF m 5 #[rv a, iv f] [(.ref a)])) rfl rfl (hb hby own_dm_5)
    refine own_st st3 ?_
    show own_Go p e below _ T3 (mkF m 8 #[rv a, iv f] [(.ref ri)])
    refine own_st (fun _ k => XS.goto X3.here hx rfl (pc0 := 8) (pc' := 15) rfl (hb hby own_dm_8) (by decide) (by decide) k) ?_
    show own_Go p e below _ T3 (mkF m 15 #[rv a, iv f] [(.ref ri)])
    refine own_retA X3 hx Bd.notSynchronized Bd.returns rfl rfl (hb hby own_dm_15) (by decide) (by decide) ?_
    rw [e3]
    exact ⟨by simp [c1], N0, rfl⟩
theorem own_rem7 (x : Int32) : ∃ k : Nat, k < 7 ∧ (x &&& (2147483647 : Int32)) % (7 : Int32) = Int32.ofNat k := by
  have e1 : (x &&& (2147483647 : Int32)).toInt = x.toInt % 2 ^ 31 := Jvm.Kit.i32_mask x 2147483647 (k := 31) (by decide) (by decide)
  have e2 : ((x &&& (2147483647 : Int32)) % (7 : Int32)).toInt = (x &&& (2147483647 : Int32)).toInt.tmod 7 := by rw [Int32.toInt_mod]; rfl
  refine ⟨(x.toInt % 2 ^ 31 % 7).toNat, by omega, ?_⟩
  apply Int32.toInt_inj.mp
  rw [e2, e1, Int.tmod_eq_emod_of_nonneg (by omega), Int32.toInt_ofNat_of_lt (by omega)]
  omega
theorem own_cases7 (x : Int32) : ∃ i : Int32, (x &&& (2147483647 : Int32)) % (7 : Int32) = i ∧ (i = 0 ∨ i = 1 ∨ i = 2 ∨ i = 3 ∨ i = 4 ∨ i = 5 ∨ i = 6) := by
  obtain ⟨k, hk, e⟩ := own_rem7 x
  refine ⟨_, e, ?_⟩
  have hk' : k = 0 ∨ k = 1 ∨ k = 2 ∨ k = 3 ∨ k = 4 ∨ k = 5 ∨ k = 6 := by omega
  rcases hk' with rfl | rfl | rfl | rfl | rfl | rfl | rfl <;> decide
theorem own_ef_law (m : MethodId) (x0 : Int32) (x1 : Int32) : entryFrame m #[(.int x0), (.int x1)] maxLocals = mkF m 0 #[.val (.int x0), .val (.int x1), .unset, .unset, .unset, .unset] [] := by first | (simp [entryFrame, mkF, argsToLocals, Value.category, maxLocals]; done) | rfl
def own_Q_law (Z : State) (p1 : Int32) (p2 : Int32) (w_PREQUIRED : Addr) (w_PREQUIRES_NEW : Addr) (w_PMANDATORY : Addr) (w_PNESTED : Addr) (w_PSUPPORTS : Addr) (w_PNOT_SUPPORTED : Addr) (w_PNEVER : Addr) (w_MNEW_TRANSACTION : Addr) (w_MNESTED : Addr) (w_MWITHOUT_TRANSACTION : Addr) (w_MREFUSED : Addr) (w_MIN_CALLERS : Addr) (h0 : Heap) (n0 : Nat) (v : Option Value) (h : Heap) (L : List Loc) : Prop := v = some (.int 1) ∧ Fr n0 L
set_option maxRecDepth 65536 in
set_option maxHeartbeats 40000000 in
theorem own_rm_law (l : Launch) (Z : State) (a0 : Array Value) (hw : ∀ d ∈ tables_1, d.before a0 Z = true) (ws : List Jvm.Cond) (p1 : Int32) (p2 : Int32) (w_PREQUIRED : Addr) (w_PREQUIRES_NEW : Addr) (w_PMANDATORY : Addr) (w_PNESTED : Addr) (w_PSUPPORTS : Addr) (w_PNOT_SUPPORTED : Addr) (w_PNEVER : Addr) (w_MNEW_TRANSACTION : Addr) (w_MNESTED : Addr) (w_MWITHOUT_TRANSACTION : Addr) (w_MREFUSED : Addr) (w_MIN_CALLERS : Addr) (h0 : Heap) (n0 : Nat) (Z0 : n0 ≤ h0.size) (S_PREQUIRED : Sta Z h0 "com/example/request_session_scope/requestsessionscope/Propagation" "REQUIRED" "Lcom/example/request_session_scope/requestsessionscope/Propagation;" (.ref w_PREQUIRED)) (S_PREQUIRES_NEW : Sta Z h0 "com/example/request_session_scope/requestsessionscope/Propagation" "REQUIRES_NEW" "Lcom/example/request_session_scope/requestsessionscope/Propagation;" (.ref w_PREQUIRES_NEW)) (S_PMANDATORY : Sta Z h0 "com/example/request_session_scope/requestsessionscope/Propagation" "MANDATORY" "Lcom/example/request_session_scope/requestsessionscope/Propagation;" (.ref w_PMANDATORY)) (S_PNESTED : Sta Z h0 "com/example/request_session_scope/requestsessionscope/Propagation" "NESTED" "Lcom/example/request_session_scope/requestsessionscope/Propagation;" (.ref w_PNESTED)) (S_PSUPPORTS : Sta Z h0 "com/example/request_session_scope/requestsessionscope/Propagation" "SUPPORTS" "Lcom/example/request_session_scope/requestsessionscope/Propagation;" (.ref w_PSUPPORTS)) (S_PNOT_SUPPORTED : Sta Z h0 "com/example/request_session_scope/requestsessionscope/Propagation" "NOT_SUPPORTED" "Lcom/example/request_session_scope/requestsessionscope/Propagation;" (.ref w_PNOT_SUPPORTED)) (S_PNEVER : Sta Z h0 "com/example/request_session_scope/requestsessionscope/Propagation" "NEVER" "Lcom/example/request_session_scope/requestsessionscope/Propagation;" (.ref w_PNEVER)) (S_MNEW_TRANSACTION : Sta Z h0 "com/example/request_session_scope/requestsessionscope/Propagation$Mode" "NEW_TRANSACTION" "Lcom/example/request_session_scope/requestsessionscope/Propagation$Mode;" (.ref w_MNEW_TRANSACTION)) (S_MNESTED : Sta Z h0 "com/example/request_session_scope/requestsessionscope/Propagation$Mode" "NESTED" "Lcom/example/request_session_scope/requestsessionscope/Propagation$Mode;" (.ref w_MNESTED)) (S_MWITHOUT_TRANSACTION : Sta Z h0 "com/example/request_session_scope/requestsessionscope/Propagation$Mode" "WITHOUT_TRANSACTION" "Lcom/example/request_session_scope/requestsessionscope/Propagation$Mode;" (.ref w_MWITHOUT_TRANSACTION)) (S_MREFUSED : Sta Z h0 "com/example/request_session_scope/requestsessionscope/Propagation$Mode" "REFUSED" "Lcom/example/request_session_scope/requestsessionscope/Propagation$Mode;" (.ref w_MREFUSED)) (S_MIN_CALLERS : Sta Z h0 "com/example/request_session_scope/requestsessionscope/Propagation$Mode" "IN_CALLERS" "Lcom/example/request_session_scope/requestsessionscope/Propagation$Mode;" (.ref w_MIN_CALLERS)) (E_PREQUIRED : Exa Z h0 w_PREQUIRED "com/example/request_session_scope/requestsessionscope/Propagation") (E_PREQUIRES_NEW : Exa Z h0 w_PREQUIRES_NEW "com/example/request_session_scope/requestsessionscope/Propagation") (E_PMANDATORY : Exa Z h0 w_PMANDATORY "com/example/request_session_scope/requestsessionscope/Propagation") (E_PNESTED : Exa Z h0 w_PNESTED "com/example/request_session_scope/requestsessionscope/Propagation") (E_PSUPPORTS : Exa Z h0 w_PSUPPORTS "com/example/request_session_scope/requestsessionscope/Propagation") (E_PNOT_SUPPORTED : Exa Z h0 w_PNOT_SUPPORTED "com/example/request_session_scope/requestsessionscope/Propagation") (E_PNEVER : Exa Z h0 w_PNEVER "com/example/request_session_scope/requestsessionscope/Propagation") (F_inTransaction_PREQUIRED : Fld Z h0 w_PREQUIRED "com/example/request_session_scope/requestsessionscope/Propagation" "inTransaction" "Lcom/example/request_session_scope/requestsessionscope/Propagation$Mode;" (.ref w_MIN_CALLERS)) (F_inTransaction_PREQUIRES_NEW : Fld Z h0 w_PREQUIRES_NEW "com/example/request_session_scope/requestsessionscope/Propagation" "inTransaction" "Lcom/example/request_session_scope/requestsessionscope/Propagation$Mode;" (.ref w_MNEW_TRANSACTION)) (F_inTransaction_PMANDATORY : Fld Z h0 w_PMANDATORY "com/example/request_session_scope/requestsessionscope/Propagation" "inTransaction" "Lcom/example/request_session_scope/requestsessionscope/Propagation$Mode;" (.ref w_MIN_CALLERS)) (F_inTransaction_PNESTED : Fld Z h0 w_PNESTED "com/example/request_session_scope/requestsessionscope/Propagation" "inTransaction" "Lcom/example/request_session_scope/requestsessionscope/Propagation$Mode;" (.ref w_MNESTED)) (F_inTransaction_PSUPPORTS : Fld Z h0 w_PSUPPORTS "com/example/request_session_scope/requestsessionscope/Propagation" "inTransaction" "Lcom/example/request_session_scope/requestsessionscope/Propagation$Mode;" (.ref w_MIN_CALLERS)) (F_inTransaction_PNOT_SUPPORTED : Fld Z h0 w_PNOT_SUPPORTED "com/example/request_session_scope/requestsessionscope/Propagation" "inTransaction" "Lcom/example/request_session_scope/requestsessionscope/Propagation$Mode;" (.ref w_MWITHOUT_TRANSACTION)) (F_inTransaction_PNEVER : Fld Z h0 w_PNEVER "com/example/request_session_scope/requestsessionscope/Propagation" "inTransaction" "Lcom/example/request_session_scope/requestsessionscope/Propagation$Mode;" (.ref w_MREFUSED)) (F_outsideTransaction_PREQUIRED : Fld Z h0 w_PREQUIRED "com/example/request_session_scope/requestsessionscope/Propagation" "outsideTransaction" "Lcom/example/request_session_scope/requestsessionscope/Propagation$Mode;" (.ref w_MNEW_TRANSACTION)) (F_outsideTransaction_PREQUIRES_NEW : Fld Z h0 w_PREQUIRES_NEW "com/example/request_session_scope/requestsessionscope/Propagation" "outsideTransaction" "Lcom/example/request_session_scope/requestsessionscope/Propagation$Mode;" (.ref w_MNEW_TRANSACTION)) (F_outsideTransaction_PMANDATORY : Fld Z h0 w_PMANDATORY "com/example/request_session_scope/requestsessionscope/Propagation" "outsideTransaction" "Lcom/example/request_session_scope/requestsessionscope/Propagation$Mode;" (.ref w_MREFUSED)) (F_outsideTransaction_PNESTED : Fld Z h0 w_PNESTED "com/example/request_session_scope/requestsessionscope/Propagation" "outsideTransaction" "Lcom/example/request_session_scope/requestsessionscope/Propagation$Mode;" (.ref w_MNEW_TRANSACTION)) (F_outsideTransaction_PSUPPORTS : Fld Z h0 w_PSUPPORTS "com/example/request_session_scope/requestsessionscope/Propagation" "outsideTransaction" "Lcom/example/request_session_scope/requestsessionscope/Propagation$Mode;" (.ref w_MIN_CALLERS)) (F_outsideTransaction_PNOT_SUPPORTED : Fld Z h0 w_PNOT_SUPPORTED "com/example/request_session_scope/requestsessionscope/Propagation" "outsideTransaction" "Lcom/example/request_session_scope/requestsessionscope/Propagation$Mode;" (.ref w_MIN_CALLERS)) (F_outsideTransaction_PNEVER : Fld Z h0 w_PNEVER "com/example/request_session_scope/requestsessionscope/Propagation" "outsideTransaction" "Lcom/example/request_session_scope/requestsessionscope/Propagation$Mode;" (.ref w_MIN_CALLERS)) :
    MetFree l x (head1 (Jvm.Cond.code x code maxLocals ret :: ws) room_1) (fun zz U => zz = #[(.int p1), (.int p2)] ∧ Z.Warmed39 U.vm ∧ U.heap = h0) (fun _ _ _ _ _ => True) (fun _ U o U' => ∃ v L, o = .returned v ∧ own_Q_law Z p1 p2 w_PREQUIRED w_PREQUIRES_NEW w_PMANDATORY w_PNESTED w_PSUPPORTS w_PNOT_SUPPORTED w_PNEVER w_MNEW_TRANSACTION w_MNESTED w_MWITHOUT_TRANSACTION w_MREFUSED w_MIN_CALLERS h0 n0 v U'.heap L ∧ FrameEnd U o U' L 0 0) := by
  refine MetFree.of_bodySF (plainFor_of_name own_pn0) hisR ?_
  intro p e s m args below meth c s₁ Bd hml0 hP hK
  obtain ⟨rfl, hZ, hh⟩ := hP
  have hx := Bd.exec
  have hby := Bd.bytes
  have hml : c.maxLocals = 6 := hml0
  have hown : s.vm.findClass "com/example/request_session_scope/requestsessionscope/PropagationModePinLaw" = some m.cls := findClass_of_methodNamed Bd.named
  have hnm := (name_of_methodNamed Bd.named Bd.method).1
  have X0 : Stand p l e room_1 s m #[(.int p1), (.int p2)] below meth c s₁ [] 0 0 := Stand.of_body Bd
  have e0 : s₁.heap = h0 := by rw [← hh, Bd.state]; rfl
  have N0 := Fr.nil n0
  show own_Go p e below (own_K s (own_Q_law Z p1 p2 w_PREQUIRED w_PREQUIRES_NEW w_PMANDATORY w_PNESTED w_PSUPPORTS w_PNOT_SUPPORTED w_PNEVER w_MNEW_TRANSACTION w_MNESTED w_MWITHOUT_TRANSACTION w_MREFUSED w_MIN_CALLERS h0 n0) 0 0) s₁ (entryFrame m #[(.int p1), (.int p2)] maxLocals)
  rw [own_ef_law m p1 p2]
  show own_Go p e below _ s₁ (mkF m 0 #[iv p1, iv p2, .unset, .unset, .unset, .unset] [])
  obtain ⟨i, hi, hc⟩ := own_cases7 p1
  have EE : Exa Z h0 (own_pick w_PREQUIRED w_PREQUIRES_NEW w_PMANDATORY w_PNESTED w_PSUPPORTS w_PNOT_SUPPORTED w_PNEVER i) "com/example/request_session_scope/requestsessionscope/Propagation" := by
    rcases hc with rfl | rfl | rfl | rfl | rfl | rfl | rfl <;> simp only [own_pick] <;> first | exact E_PREQUIRED | exact E_PREQUIRES_NEW | exact E_PMANDATORY | exact E_PNESTED | exact E_PSUPPORTS | exact E_PNOT_SUPPORTED | exact E_PNEVER
  have FI : Fld Z h0 (own_pick w_PREQUIRED w_PREQUIRES_NEW w_PMANDATORY w_PNESTED w_PSUPPORTS w_PNOT_SUPPORTED w_PNEVER i) "com/example/request_session_scope/requestsessionscope/Propagation" "inTransaction" "Lcom/example/request_session_scope/requestsessionscope/Propagation$Mode;" (.ref (own_in w_MNEW_TRANSACTION w_MNESTED w_MWITHOUT_TRANSACTION w_MREFUSED w_MIN_CALLERS i)) := by
    rcases hc with rfl | rfl | rfl | rfl | rfl | rfl | rfl <;> simp only [own_pick, own_in] <;> first | exact F_inTransaction_PREQUIRED | exact F_inTransaction_PREQUIRES_NEW | exact F_inTransaction_PMANDATORY | exact F_inTransaction_PNESTED | exact F_inTransaction_PSUPPORTS | exact F_inTransaction_PNOT_SUPPORTED | exact F_inTransaction_PNEVER
  have FO : Fld Z h0 (own_pick w_PREQUIRED w_PREQUIRES_NEW w_PMANDATORY w_PNESTED w_PSUPPORTS w_PNOT_SUPPORTED w_PNEVER i) "com/example/request_session_scope/requestsessionscope/Propagation" "outsideTransaction" "Lcom/example/request_session_scope/requestsessionscope/Propagation$Mode;" (.ref (own_out w_MNEW_TRANSACTION w_MNESTED w_MWITHOUT_TRANSACTION w_MREFUSED w_MIN_CALLERS i)) := by
    rcases hc with rfl | rfl | rfl | rfl | rfl | rfl | rfl <;> simp only [own_pick, own_out] <;> first | exact F_outsideTransaction_PREQUIRED | exact F_outsideTransaction_PREQUIRES_NEW | exact F_outsideTransaction_PMANDATORY | exact F_outsideTransaction_PNESTED | exact F_outsideTransaction_PSUPPORTS | exact F_outsideTransaction_PNOT_SUPPORTED | exact F_outsideTransaction_PNEVER
  refine own_st (fun _ k => XS.iloadN X0.here hx rfl (hb hby at_0) rfl k) ?_
  show own_Go p e below _ s₁ (mkF m 1 #[iv p1, iv p2, .unset, .unset, .unset, .unset] [(.int p1)])
  refine own_st (fun _ k => Jvm.Stand.ldcI X0 hx hown (mvT hZ (hw _ (List.mem_of_getElem? (i := 0) rfl))) rfl (hb hby at_1) k) ?_
  show own_Go p e below _ s₁ (mkF m 3 #[iv p1, iv p2, .unset, .unset, .unset, .unset] [(.int 2147483647), (.int p1)])
  refine own_st (fun _ k => XS.iand X0.here hx rfl (hb hby at_3) rfl k) ?_
  show own_Go p e below _ s₁ (mkF m 4 #[iv p1, iv p2, .unset, .unset, .unset, .unset] [(.int (p1 &&& 2147483647))])
  refine own_st (fun _ k => XT.bipushV X0.here hx rfl (7 : Int32) (hb hby at_4) (by decide) k) ?_
  show own_Go p e below _ s₁ (mkF m 6 #[iv p1, iv p2, .unset, .unset, .unset, .unset] [(.int 7), (.int (p1 &&& 2147483647))])
  refine own_st (fun _ k => iremM X0 hx rfl (hb hby at_6) rfl (by decide) k) ?_
  show own_Go p e below _ s₁ (mkF m 7 #[iv p1, iv p2, .unset, .unset, .unset, .unset] [(.int ((p1 &&& 2147483647) % 7))])
  rw [hi]
  show own_Go p e below _ s₁ (mkF m 7 #[iv p1, iv p2, .unset, .unset, .unset, .unset] [(.int i)])
  refine own_st (fun _ k => XS.istoreN X0.here hx rfl (hb hby at_7) rfl (l' := #[iv p1, iv p2, iv i, .unset, .unset, .unset]) rfl k) ?_
  show own_Go p e below _ s₁ (mkF m 8 #[iv p1, iv p2, iv i, .unset, .unset, .unset] [])
  refine own_st (fun _ k => XS.iloadN X0.here hx rfl (hb hby at_8) rfl k) ?_
  show own_Go p e below _ s₁ (mkF m 9 #[iv p1, iv p2, iv i, .unset, .unset, .unset] [(.int p2)])
  refine own_st (fun _ k => XT.iconstV X0.here hx rfl (1 : Int32) (hb hby at_9) (by decide) k) ?_
  show own_Go p e below _ s₁ (mkF m 10 #[iv p1, iv p2, iv i, .unset, .unset, .unset] [(.int 1), (.int p2)])
  refine own_st (fun _ k => XS.iand X0.here hx rfl (hb hby at_10) rfl k) ?_
  show own_Go p e below _ s₁ (mkF m 11 #[iv p1, iv p2, iv i, .unset, .unset, .unset] [(.int (p2 &&& 1))])
  by_cases hf : (p2 &&& (1 : Int32)) = 0
  · refine own_st (fun _ k => XS.ifYes X0.here hx rfl (pc0 := 11) (pc' := 18) rfl (hb hby at_11) rfl (XT.i0_eq_t hf) (by decide) (by decide) k) ?_
    show own_Go p e below _ s₁ (mkF m 18 #[iv p1, iv p2, iv i, .unset, .unset, .unset] [])
    refine own_st (fun _ k => XT.iconstV X0.here hx rfl (0 : Int32) (hb hby at_18) (by decide) k) ?_
    show own_Go p e below _ s₁ (mkF m 19 #[iv p1, iv p2, iv i, .unset, .unset, .unset] [(.int 0)])
    refine own_st (fun _ k => XS.istoreN X0.here hx rfl (hb hby at_19) rfl (l' := #[iv p1, iv p2, iv i, iv 0, .unset, .unset]) rfl k) ?_
    show own_Go p e below _ s₁ (mkF m 20 #[iv p1, iv p2, iv i, iv 0, .unset, .unset] [])
    refine own_st (fun _ k => XS.iloadN X0.here hx rfl (hb hby at_20) rfl k) ?_
    show own_Go p e below _ s₁ (mkF m 21 #[iv p1, iv p2, iv i, iv 0, .unset, .unset] [(.int i)])
    obtain ⟨_, _, ⟨T1, L1, k1, n1⟩, -, X1, ⟨Lc1, hQ1, l1, y1, z1⟩, st1⟩ := Jvm.LawKit.callS X0 hx (y := (⟨"com/example/request_session_scope/requestsessionscope/PropagationModePinLaw", "pick", "(I)Lcom/example/request_session_scope/requestsessionscope/Propagation;"⟩ : MethodName)) hown (mvT hZ (hw _ (List.mem_of_getElem? (i := 1) rfl))) (mvT hZ (hw _ (List.mem_of_getElem? (i := 2) rfl))) (mvT hZ (hw _ (List.mem_of_getElem? (i := 3) rfl))) (mvT hZ (hw _ (List.mem_of_getElem? (i := 4) rfl))) (by decide) (backOf (W := 0) (own_rm_pick l Z a0 hw [] i w_PREQUIRED w_PREQUIRES_NEW w_PMANDATORY w_PNESTED w_PSUPPORTS w_PNOT_SUPPORTED w_PNEVER h0 n0 Z0 S_PREQUIRED S_PREQUIRES_NEW S_PMANDATORY S_PNESTED S_PSUPPORTS S_PNOT_SUPPORTED S_PNEVER) hZ (hw _ (List.mem_of_getElem? (i := 4) rfl)) (hw _ (List.mem_of_getElem? (i := 3) rfl)) (by decide) (by decide)) (g := (mkF m 21 #[iv p1, iv p2, iv i, iv 0, .unset, .unset] [(.int i)])) rfl (by rw [hml]; rfl) (argsL := [(.int i)]) (rest := []) (lenOf own_pd0 rfl) rfl (by show 2 * 0 + _ ≤ _; exact Nat.le_of_eq rfl) (hb hby at_21) (fun _ _ => ⟨rfl, e0, (by decide : 0 + 0 ≤ _), (by decide : 0 + 0 ≤ _)⟩)
    dsimp only [Pt.U, Pt.locs, Pt.cells, Pt.slots] at X1 l1 y1 z1 st1 hQ1
    subst l1 y1 z1
    obtain ⟨rfl, N1, eh1⟩ := hQ1
    have M1 := Fr.app N0 N1
    refine own_st st1 ?_
    show own_Go p e below _ T1 (mkF m 24 #[iv p1, iv p2, iv i, iv 0, .unset, .unset] [(.ref (own_pick w_PREQUIRED w_PREQUIRES_NEW w_PMANDATORY w_PNESTED w_PSUPPORTS w_PNOT_SUPPORTED w_PNEVER i))])
    refine own_st (fun _ k => XS.astore X1.here hx rfl (hb hby at_24) rfl rfl (l' := #[iv p1, iv p2, iv i, iv 0, rv (own_pick w_PREQUIRED w_PREQUIRES_NEW w_PMANDATORY w_PNESTED w_PSUPPORTS w_PNOT_SUPPORTED w_PNEVER i), .unset]) rfl k) ?_
    show own_Go p e below _ T1 (mkF m 26 #[iv p1, iv p2, iv i, iv 0, rv (own_pick w_PREQUIRED w_PREQUIRES_NEW w_PMANDATORY w_PNESTED w_PSUPPORTS w_PNOT_SUPPORTED w_PNEVER i), .unset] [])
    refine own_st (fun _ k => XS.iloadN X1.here hx rfl (hb hby at_26) rfl k) ?_
    show own_Go p e below _ T1 (mkF m 27 #[iv p1, iv p2, iv i, iv 0, rv (own_pick w_PREQUIRED w_PREQUIRES_NEW w_PMANDATORY w_PNESTED w_PSUPPORTS w_PNOT_SUPPORTED w_PNEVER i), .unset] [(.int 0)])
    refine own_st (fun _ k => XS.ifYes X1.here hx rfl (pc0 := 27) (pc' := 91) rfl (hb hby at_27) rfl (XT.i0_eq_t (by decide)) (by decide) (by decide) k) ?_
    show own_Go p e below _ T1 (mkF m 91 #[iv p1, iv p2, iv i, iv 0, rv (own_pick w_PREQUIRED w_PREQUIRES_NEW w_PMANDATORY w_PNESTED w_PSUPPORTS w_PNOT_SUPPORTED w_PNEVER i), .unset] [])
    refine own_st (fun _ k => XS.iloadN X1.here hx rfl (hb hby at_91) rfl k) ?_
    show own_Go p e below _ T1 (mkF m 92 #[iv p1, iv p2, iv i, iv 0, rv (own_pick w_PREQUIRED w_PREQUIRES_NEW w_PMANDATORY w_PNESTED w_PSUPPORTS w_PNOT_SUPPORTED w_PNEVER i), .unset] [(.int i)])
    refine own_st (fun _ k => XT.iconstV X1.here hx rfl (2 : Int32) (hb hby at_92) (by decide) k) ?_
    show own_Go p e below _ T1 (mkF m 93 #[iv p1, iv p2, iv i, iv 0, rv (own_pick w_PREQUIRED w_PREQUIRES_NEW w_PMANDATORY w_PNESTED w_PSUPPORTS w_PNOT_SUPPORTED w_PNEVER i), .unset] [(.int 2), (.int i)])
    by_cases c0 : i = (2 : Int32)
    · refine own_st (fun _ k => XS.icmpNo X1.here hx rfl (hb hby at_93) rfl (XT.ii_ne_f c0) k) ?_
      show own_Go p e below _ T1 (mkF m 96 #[iv p1, iv p2, iv i, iv 0, rv (own_pick w_PREQUIRED w_PREQUIRES_NEW w_PMANDATORY w_PNESTED w_PSUPPORTS w_PNOT_SUPPORTED w_PNEVER i), .unset] [])
      obtain ⟨T2, X2, e2, st2⟩ := getS2 X1 hx hZ hown (host := "") (Or.inl (hw _ (List.mem_of_getElem? (i := 38) rfl))) Via.refl eh1 S_MREFUSED (g := (mkF m 96 #[iv p1, iv p2, iv i, iv 0, rv (own_pick w_PREQUIRED w_PREQUIRES_NEW w_PMANDATORY w_PNESTED w_PSUPPORTS w_PNOT_SUPPORTED w_PNEVER i), .unset] [])) rfl (hb hby at_96)
      refine own_st st2 ?_
      show own_Go p e below _ T2 (mkF m 99 #[iv p1, iv p2, iv i, iv 0, rv (own_pick w_PREQUIRED w_PREQUIRES_NEW w_PMANDATORY w_PNESTED w_PSUPPORTS w_PNOT_SUPPORTED w_PNEVER i), .unset] [(.ref w_MREFUSED)])
      refine own_st (fun _ k => XS.astore X2.here hx rfl (hb hby at_99) rfl rfl (l' := #[iv p1, iv p2, iv i, iv 0, rv (own_pick w_PREQUIRED w_PREQUIRES_NEW w_PMANDATORY w_PNESTED w_PSUPPORTS w_PNOT_SUPPORTED w_PNEVER i), rv w_MREFUSED]) rfl k) ?_
      show own_Go p e below _ T2 (mkF m 101 #[iv p1, iv p2, iv i, iv 0, rv (own_pick w_PREQUIRED w_PREQUIRES_NEW w_PMANDATORY w_PNESTED w_PSUPPORTS w_PNOT_SUPPORTED w_PNEVER i), rv w_MREFUSED] [])
      refine own_st (fun _ k => XS.goto X2.here hx rfl (pc0 := 101) (pc' := 122) rfl (hb hby at_101) (by decide) (by decide) k) ?_
      show own_Go p e below _ T2 (mkF m 122 #[iv p1, iv p2, iv i, iv 0, rv (own_pick w_PREQUIRED w_PREQUIRES_NEW w_PMANDATORY w_PNESTED w_PSUPPORTS w_PNOT_SUPPORTED w_PNEVER i), rv w_MREFUSED] [])
      refine own_st (fun _ k => XS.aload X2.here hx rfl (hb hby at_122) rfl rfl k) ?_
      show own_Go p e below _ T2 (mkF m 124 #[iv p1, iv p2, iv i, iv 0, rv (own_pick w_PREQUIRED w_PREQUIRES_NEW w_PMANDATORY w_PNESTED w_PSUPPORTS w_PNOT_SUPPORTED w_PNEVER i), rv w_MREFUSED] [(.ref (own_pick w_PREQUIRED w_PREQUIRES_NEW w_PMANDATORY w_PNESTED w_PSUPPORTS w_PNOT_SUPPORTED w_PNEVER i))])
      refine own_st (fun _ k => XS.iloadN X2.here hx rfl (hb hby at_124) rfl k) ?_
      show own_Go p e below _ T2 (mkF m 125 #[iv p1, iv p2, iv i, iv 0, rv (own_pick w_PREQUIRED w_PREQUIRES_NEW w_PMANDATORY w_PNESTED w_PSUPPORTS w_PNOT_SUPPORTED w_PNEVER i), rv w_MREFUSED] [(.int 0), (.ref (own_pick w_PREQUIRED w_PREQUIRES_NEW w_PMANDATORY w_PNESTED w_PSUPPORTS w_PNOT_SUPPORTED w_PNEVER i))])
      obtain ⟨cq3, kq3, q3a, q3b, q3c⟩ := isOf hZ e2 EE
      obtain ⟨_, _, ⟨T3, L3, k3, n3⟩, -, X3, ⟨Lc3, hQ3, l3, y3, z3⟩, st3⟩ := X2.virtualBack hx (y := (⟨"com/example/request_session_scope/requestsessionscope/Propagation", "mode", "(Z)Lcom/example/request_session_scope/requestsessionscope/Propagation$Mode;"⟩ : MethodName)) (z := (⟨"com/example/request_session_scope/requestsessionscope/Propagation", "mode", "(Z)Lcom/example/request_session_scope/requestsessionscope/Propagation$Mode;"⟩ : MethodName)) hown (mvT hZ (hw _ (List.mem_of_getElem? (i := 11) rfl))) (mvT hZ (hw _ (List.mem_of_getElem? (i := 12) rfl))) (notFace_of_selects (args := #[]) (mvT hZ (hw _ (List.mem_of_getElem? (i := 14) rfl)))) (mvT hZ (hw _ (List.mem_of_getElem? (i := 14) rfl))) (mvT hZ (hw _ (List.mem_of_getElem? (i := 13) rfl))) (by decide) (backOf (W := 0) (own_rm_mode l Z a0 hw [] (own_pick w_PREQUIRED w_PREQUIRES_NEW w_PMANDATORY w_PNESTED w_PSUPPORTS w_PNOT_SUPPORTED w_PNEVER i) (0 : Int32) (own_in w_MNEW_TRANSACTION w_MNESTED w_MWITHOUT_TRANSACTION w_MREFUSED w_MIN_CALLERS i) (own_out w_MNEW_TRANSACTION w_MNESTED w_MWITHOUT_TRANSACTION w_MREFUSED w_MIN_CALLERS i) h0 n0 Z0 FI FO) hZ (hw _ (List.mem_of_getElem? (i := 15) rfl)) (hw _ (List.mem_of_getElem? (i := 6) rfl)) (by decide) (by decide)) q3a q3c (g := (mkF m 125 #[iv p1, iv p2, iv i, iv 0, rv (own_pick w_PREQUIRED w_PREQUIRES_NEW w_PMANDATORY w_PNESTED w_PSUPPORTS w_PNOT_SUPPORTED w_PNEVER i), rv w_MREFUSED] [(.int 0), (.ref (own_pick w_PREQUIRED w_PREQUIRES_NEW w_PMANDATORY w_PNESTED w_PSUPPORTS w_PNOT_SUPPORTED w_PNEVER i))])) rfl (by rw [hml]; rfl) (Steps.refl _) (argsL := [(.int (0 : Int32))]) (rest := []) (lenOf own_pd1 rfl) rfl (by show 2 * 0 + _ ≤ _; exact Nat.le_of_eq rfl) (hb hby at_125) (fun _ _ => ⟨rfl, e2, (by decide : 0 + 0 ≤ _), (by decide : 0 + 0 ≤ _)⟩)
      dsimp only [Pt.U, Pt.locs, Pt.cells, Pt.slots] at X3 l3 y3 z3 st3 hQ3
      subst l3 y3 z3
      obtain ⟨rfl, N3, eh3⟩ := hQ3
      have M3 := Fr.app M1 N3
      refine own_tr st3 ?_
      show own_Go p e below _ T3 (mkF m 128 #[iv p1, iv p2, iv i, iv 0, rv (own_pick w_PREQUIRED w_PREQUIRES_NEW w_PMANDATORY w_PNESTED w_PSUPPORTS w_PNOT_SUPPORTED w_PNEVER i), rv w_MREFUSED] [(.ref (if (0 : Int32) = 0 then (own_out w_MNEW_TRANSACTION w_MNESTED w_MWITHOUT_TRANSACTION w_MREFUSED w_MIN_CALLERS i) else (own_in w_MNEW_TRANSACTION w_MNESTED w_MWITHOUT_TRANSACTION w_MREFUSED w_MIN_CALLERS i)))])
      refine own_st (fun _ k => XS.aload X3.here hx rfl (hb hby at_128) rfl rfl k) ?_
      show own_Go p e below _ T3 (mkF m 130 #[iv p1, iv p2, iv i, iv 0, rv (own_pick w_PREQUIRED w_PREQUIRES_NEW w_PMANDATORY w_PNESTED w_PSUPPORTS w_PNOT_SUPPORTED w_PNEVER i), rv w_MREFUSED] [(.ref w_MREFUSED), (.ref (if (0 : Int32) = 0 then (own_out w_MNEW_TRANSACTION w_MNESTED w_MWITHOUT_TRANSACTION w_MREFUSED w_MIN_CALLERS i) else (own_in w_MNEW_TRANSACTION w_MNESTED w_MWITHOUT_TRANSACTION w_MREFUSED w_MIN_CALLERS i)))])
      refine own_st (fun _ k => XT.acmpNo X3.here hx rfl (hb hby at_130) rfl rfl rfl (XT.aa_ne_f (by simp [own_in, own_out, c0])) k) ?_
      show own_Go p e below _ T3 (mkF m 133 #[iv p1, iv p2, iv i, iv 0, rv (own_pick w_PREQUIRED w_PREQUIRES_NEW w_PMANDATORY w_PNESTED w_PSUPPORTS w_PNOT_SUPPORTED w_PNEVER i), rv w_MREFUSED] [])
      refine own_st (fun _ k => XT.iconstV X3.here hx rfl (1 : Int32) (hb hby at_133) (by decide) k) ?_
      show own_Go p e below _ T3 (mkF m 134 #[iv p1, iv p2, iv i, iv 0, rv (own_pick w_PREQUIRED w_PREQUIRES_NEW w_PMANDATORY w_PNESTED w_PSUPPORTS w_PNOT_SUPPORTED w_PNEVER i), rv w_MREFUSED] [(.int 1)])
      refine own_st (fun _ k => XS.goto X3.here hx rfl (pc0 := 134) (pc' := 138) rfl (hb hby at_134) (by decide) (by decide) k) ?_
      show own_Go p e below _ T3 (mkF m 138 #[iv p1, iv p2, iv i, iv 0, rv (own_pick w_PREQUIRED w_PREQUIRES_NEW w_PMANDATORY w_PNESTED w_PSUPPORTS w_PNOT_SUPPORTED w_PNEVER i), rv w_MREFUSED] [(.int 1)])
      refine own_retN X3 hx Bd.notSynchronized (t := .boolean) Bd.returns (by simp) (hb hby at_138) (by decide) (by decide) ?_
      rw [eh3]
      exact ⟨rfl, M3⟩
    · refine own_st (fun _ k => XS.icmpYes X1.here hx rfl (pc0 := 93) (pc' := 104) rfl (hb hby at_93) rfl (XT.ii_ne_t c0) (by decide) (by decide) k) ?_
      show own_Go p e below _ T1 (mkF m 104 #[iv p1, iv p2, iv i, iv 0, rv (own_pick w_PREQUIRED w_PREQUIRES_NEW w_PMANDATORY w_PNESTED w_PSUPPORTS w_PNOT_SUPPORTED w_PNEVER i), .unset] [])
      refine own_st (fun _ k => XS.iloadN X1.here hx rfl (hb hby at_104) rfl k) ?_
      show own_Go p e below _ T1 (mkF m 105 #[iv p1, iv p2, iv i, iv 0, rv (own_pick w_PREQUIRED w_PREQUIRES_NEW w_PMANDATORY w_PNESTED w_PSUPPORTS w_PNOT_SUPPORTED w_PNEVER i), .unset] [(.int i)])
      refine own_st (fun _ k => XT.iconstV X1.here hx rfl (3 : Int32) (hb hby at_105) (by decide) k) ?_
      show own_Go p e below _ T1 (mkF m 106 #[iv p1, iv p2, iv i, iv 0, rv (own_pick w_PREQUIRED w_PREQUIRES_NEW w_PMANDATORY w_PNESTED w_PSUPPORTS w_PNOT_SUPPORTED w_PNEVER i), .unset] [(.int 3), (.int i)])
      by_cases c1 : (3 : Int32) < i
      · refine own_st (fun _ k => XS.icmpYes X1.here hx rfl (pc0 := 106) (pc' := 117) rfl (hb hby at_106) rfl (XT.ii_gt_t c1) (by decide) (by decide) k) ?_
        show own_Go p e below _ T1 (mkF m 117 #[iv p1, iv p2, iv i, iv 0, rv (own_pick w_PREQUIRED w_PREQUIRES_NEW w_PMANDATORY w_PNESTED w_PSUPPORTS w_PNOT_SUPPORTED w_PNEVER i), .unset] [])
        obtain ⟨T5, X5, e5, st5⟩ := getS2 X1 hx hZ hown (host := "") (Or.inl (hw _ (List.mem_of_getElem? (i := 8) rfl))) Via.refl eh1 S_MIN_CALLERS (g := (mkF m 117 #[iv p1, iv p2, iv i, iv 0, rv (own_pick w_PREQUIRED w_PREQUIRES_NEW w_PMANDATORY w_PNESTED w_PSUPPORTS w_PNOT_SUPPORTED w_PNEVER i), .unset] [])) rfl (hb hby at_117)
        refine own_st st5 ?_
        show own_Go p e below _ T5 (mkF m 120 #[iv p1, iv p2, iv i, iv 0, rv (own_pick w_PREQUIRED w_PREQUIRES_NEW w_PMANDATORY w_PNESTED w_PSUPPORTS w_PNOT_SUPPORTED w_PNEVER i), .unset] [(.ref w_MIN_CALLERS)])
        refine own_st (fun _ k => XS.astore X5.here hx rfl (hb hby at_120) rfl rfl (l' := #[iv p1, iv p2, iv i, iv 0, rv (own_pick w_PREQUIRED w_PREQUIRES_NEW w_PMANDATORY w_PNESTED w_PSUPPORTS w_PNOT_SUPPORTED w_PNEVER i), rv w_MIN_CALLERS]) rfl k) ?_
        show own_Go p e below _ T5 (mkF m 122 #[iv p1, iv p2, iv i, iv 0, rv (own_pick w_PREQUIRED w_PREQUIRES_NEW w_PMANDATORY w_PNESTED w_PSUPPORTS w_PNOT_SUPPORTED w_PNEVER i), rv w_MIN_CALLERS] [])
        refine own_st (fun _ k => XS.aload X5.here hx rfl (hb hby at_122) rfl rfl k) ?_
        show own_Go p e below _ T5 (mkF m 124 #[iv p1, iv p2, iv i, iv 0, rv (own_pick w_PREQUIRED w_PREQUIRES_NEW w_PMANDATORY w_PNESTED w_PSUPPORTS w_PNOT_SUPPORTED w_PNEVER i), rv w_MIN_CALLERS] [(.ref (own_pick w_PREQUIRED w_PREQUIRES_NEW w_PMANDATORY w_PNESTED w_PSUPPORTS w_PNOT_SUPPORTED w_PNEVER i))])
        refine own_st (fun _ k => XS.iloadN X5.here hx rfl (hb hby at_124) rfl k) ?_
        show own_Go p e below _ T5 (mkF m 125 #[iv p1, iv p2, iv i, iv 0, rv (own_pick w_PREQUIRED w_PREQUIRES_NEW w_PMANDATORY w_PNESTED w_PSUPPORTS w_PNOT_SUPPORTED w_PNEVER i), rv w_MIN_CALLERS] [(.int 0), (.ref (own_pick w_PREQUIRED w_PREQUIRES_NEW w_PMANDATORY w_PNESTED w_PSUPPORTS w_PNOT_SUPPORTED w_PNEVER i))])
        obtain ⟨cq6, kq6, q6a, q6b, q6c⟩ := isOf hZ e5 EE
        obtain ⟨_, _, ⟨T6, L6, k6, n6⟩, -, X6, ⟨Lc6, hQ6, l6, y6, z6⟩, st6⟩ := X5.virtualBack hx (y := (⟨"com/example/request_session_scope/requestsessionscope/Propagation", "mode", "(Z)Lcom/example/request_session_scope/requestsessionscope/Propagation$Mode;"⟩ : MethodName)) (z := (⟨"com/example/request_session_scope/requestsessionscope/Propagation", "mode", "(Z)Lcom/example/request_session_scope/requestsessionscope/Propagation$Mode;"⟩ : MethodName)) hown (mvT hZ (hw _ (List.mem_of_getElem? (i := 11) rfl))) (mvT hZ (hw _ (List.mem_of_getElem? (i := 12) rfl))) (notFace_of_selects (args := #[]) (mvT hZ (hw _ (List.mem_of_getElem? (i := 14) rfl)))) (mvT hZ (hw _ (List.mem_of_getElem? (i := 14) rfl))) (mvT hZ (hw _ (List.mem_of_getElem? (i := 13) rfl))) (by decide) (backOf (W := 0) (own_rm_mode l Z a0 hw [] (own_pick w_PREQUIRED w_PREQUIRES_NEW w_PMANDATORY w_PNESTED w_PSUPPORTS w_PNOT_SUPPORTED w_PNEVER i) (0 : Int32) (own_in w_MNEW_TRANSACTION w_MNESTED w_MWITHOUT_TRANSACTION w_MREFUSED w_MIN_CALLERS i) (own_out w_MNEW_TRANSACTION w_MNESTED w_MWITHOUT_TRANSACTION w_MREFUSED w_MIN_CALLERS i) h0 n0 Z0 FI FO) hZ (hw _ (List.mem_of_getElem? (i := 15) rfl)) (hw _ (List.mem_of_getElem? (i := 6) rfl)) (by decide) (by decide)) q6a q6c (g := (mkF m 125 #[iv p1, iv p2, iv i, iv 0, rv (own_pick w_PREQUIRED w_PREQUIRES_NEW w_PMANDATORY w_PNESTED w_PSUPPORTS w_PNOT_SUPPORTED w_PNEVER i), rv w_MIN_CALLERS] [(.int 0), (.ref (own_pick w_PREQUIRED w_PREQUIRES_NEW w_PMANDATORY w_PNESTED w_PSUPPORTS w_PNOT_SUPPORTED w_PNEVER i))])) rfl (by rw [hml]; rfl) (Steps.refl _) (argsL := [(.int (0 : Int32))]) (rest := []) (lenOf own_pd1 rfl) rfl (by show 2 * 0 + _ ≤ _; exact Nat.le_of_eq rfl) (hb hby at_125) (fun _ _ => ⟨rfl, e5, (by decide : 0 + 0 ≤ _), (by decide : 0 + 0 ≤ _)⟩)
        dsimp only [Pt.U, Pt.locs, Pt.cells, Pt.slots] at X6 l6 y6 z6 st6 hQ6
        subst l6 y6 z6
        obtain ⟨rfl, N6, eh6⟩ := hQ6
        have M6 := Fr.app M1 N6
        refine own_tr st6 ?_
        show own_Go p e below _ T6 (mkF m 128 #[iv p1, iv p2, iv i, iv 0, rv (own_pick w_PREQUIRED w_PREQUIRES_NEW w_PMANDATORY w_PNESTED w_PSUPPORTS w_PNOT_SUPPORTED w_PNEVER i), rv w_MIN_CALLERS] [(.ref (if (0 : Int32) = 0 then (own_out w_MNEW_TRANSACTION w_MNESTED w_MWITHOUT_TRANSACTION w_MREFUSED w_MIN_CALLERS i) else (own_in w_MNEW_TRANSACTION w_MNESTED w_MWITHOUT_TRANSACTION w_MREFUSED w_MIN_CALLERS i)))])
        refine own_st (fun _ k => XS.aload X6.here hx rfl (hb hby at_128) rfl rfl k) ?_
        show own_Go p e below _ T6 (mkF m 130 #[iv p1, iv p2, iv i, iv 0, rv (own_pick w_PREQUIRED w_PREQUIRES_NEW w_PMANDATORY w_PNESTED w_PSUPPORTS w_PNOT_SUPPORTED w_PNEVER i), rv w_MIN_CALLERS] [(.ref w_MIN_CALLERS), (.ref (if (0 : Int32) = 0 then (own_out w_MNEW_TRANSACTION w_MNESTED w_MWITHOUT_TRANSACTION w_MREFUSED w_MIN_CALLERS i) else (own_in w_MNEW_TRANSACTION w_MNESTED w_MWITHOUT_TRANSACTION w_MREFUSED w_MIN_CALLERS i)))])
        refine own_st (fun _ k => XT.acmpNo X6.here hx rfl (hb hby at_130) rfl rfl rfl (XT.aa_ne_f (by simp [own_in, own_out, c0, c1])) k) ?_
        show own_Go p e below _ T6 (mkF m 133 #[iv p1, iv p2, iv i, iv 0, rv (own_pick w_PREQUIRED w_PREQUIRES_NEW w_PMANDATORY w_PNESTED w_PSUPPORTS w_PNOT_SUPPORTED w_PNEVER i), rv w_MIN_CALLERS] [])
        refine own_st (fun _ k => XT.iconstV X6.here hx rfl (1 : Int32) (hb hby at_133) (by decide) k) ?_
        show own_Go p e below _ T6 (mkF m 134 #[iv p1, iv p2, iv i, iv 0, rv (own_pick w_PREQUIRED w_PREQUIRES_NEW w_PMANDATORY w_PNESTED w_PSUPPORTS w_PNOT_SUPPORTED w_PNEVER i), rv w_MIN_CALLERS] [(.int 1)])
        refine own_st (fun _ k => XS.goto X6.here hx rfl (pc0 := 134) (pc' := 138) rfl (hb hby at_134) (by decide) (by decide) k) ?_
        show own_Go p e below _ T6 (mkF m 138 #[iv p1, iv p2, iv i, iv 0, rv (own_pick w_PREQUIRED w_PREQUIRES_NEW w_PMANDATORY w_PNESTED w_PSUPPORTS w_PNOT_SUPPORTED w_PNEVER i), rv w_MIN_CALLERS] [(.int 1)])
        refine own_retN X6 hx Bd.notSynchronized (t := .boolean) Bd.returns (by simp) (hb hby at_138) (by decide) (by decide) ?_
        rw [eh6]
        exact ⟨rfl, M6⟩
      · refine own_st (fun _ k => XS.icmpNo X1.here hx rfl (hb hby at_106) rfl (XT.ii_gt_f c1) k) ?_
        show own_Go p e below _ T1 (mkF m 109 #[iv p1, iv p2, iv i, iv 0, rv (own_pick w_PREQUIRED w_PREQUIRES_NEW w_PMANDATORY w_PNESTED w_PSUPPORTS w_PNOT_SUPPORTED w_PNEVER i), .unset] [])
        obtain ⟨T8, X8, e8, st8⟩ := getS2 X1 hx hZ hown (host := "") (Or.inl (hw _ (List.mem_of_getElem? (i := 24) rfl))) Via.refl eh1 S_MNEW_TRANSACTION (g := (mkF m 109 #[iv p1, iv p2, iv i, iv 0, rv (own_pick w_PREQUIRED w_PREQUIRES_NEW w_PMANDATORY w_PNESTED w_PSUPPORTS w_PNOT_SUPPORTED w_PNEVER i), .unset] [])) rfl (hb hby at_109)
        refine own_st st8 ?_
        show own_Go p e below _ T8 (mkF m 112 #[iv p1, iv p2, iv i, iv 0, rv (own_pick w_PREQUIRED w_PREQUIRES_NEW w_PMANDATORY w_PNESTED w_PSUPPORTS w_PNOT_SUPPORTED w_PNEVER i), .unset] [(.ref w_MNEW_TRANSACTION)])
        refine own_st (fun _ k => XS.astore X8.here hx rfl (hb hby at_112) rfl rfl (l' := #[iv p1, iv p2, iv i, iv 0, rv (own_pick w_PREQUIRED w_PREQUIRES_NEW w_PMANDATORY w_PNESTED w_PSUPPORTS w_PNOT_SUPPORTED w_PNEVER i), rv w_MNEW_TRANSACTION]) rfl k) ?_
        show own_Go p e below _ T8 (mkF m 114 #[iv p1, iv p2, iv i, iv 0, rv (own_pick w_PREQUIRED w_PREQUIRES_NEW w_PMANDATORY w_PNESTED w_PSUPPORTS w_PNOT_SUPPORTED w_PNEVER i), rv w_MNEW_TRANSACTION] [])
        refine own_st (fun _ k => XS.goto X8.here hx rfl (pc0 := 114) (pc' := 122) rfl (hb hby at_114) (by decide) (by decide) k) ?_
        show own_Go p e below _ T8 (mkF m 122 #[iv p1, iv p2, iv i, iv 0, rv (own_pick w_PREQUIRED w_PREQUIRES_NEW w_PMANDATORY w_PNESTED w_PSUPPORTS w_PNOT_SUPPORTED w_PNEVER i), rv w_MNEW_TRANSACTION] [])
        refine own_st (fun _ k => XS.aload X8.here hx rfl (hb hby at_122) rfl rfl k) ?_
        show own_Go p e below _ T8 (mkF m 124 #[iv p1, iv p2, iv i, iv 0, rv (own_pick w_PREQUIRED w_PREQUIRES_NEW w_PMANDATORY w_PNESTED w_PSUPPORTS w_PNOT_SUPPORTED w_PNEVER i), rv w_MNEW_TRANSACTION] [(.ref (own_pick w_PREQUIRED w_PREQUIRES_NEW w_PMANDATORY w_PNESTED w_PSUPPORTS w_PNOT_SUPPORTED w_PNEVER i))])
        refine own_st (fun _ k => XS.iloadN X8.here hx rfl (hb hby at_124) rfl k) ?_
        show own_Go p e below _ T8 (mkF m 125 #[iv p1, iv p2, iv i, iv 0, rv (own_pick w_PREQUIRED w_PREQUIRES_NEW w_PMANDATORY w_PNESTED w_PSUPPORTS w_PNOT_SUPPORTED w_PNEVER i), rv w_MNEW_TRANSACTION] [(.int 0), (.ref (own_pick w_PREQUIRED w_PREQUIRES_NEW w_PMANDATORY w_PNESTED w_PSUPPORTS w_PNOT_SUPPORTED w_PNEVER i))])
        obtain ⟨cq9, kq9, q9a, q9b, q9c⟩ := isOf hZ e8 EE
        obtain ⟨_, _, ⟨T9, L9, k9, n9⟩, -, X9, ⟨Lc9, hQ9, l9, y9, z9⟩, st9⟩ := X8.virtualBack hx (y := (⟨"com/example/request_session_scope/requestsessionscope/Propagation", "mode", "(Z)Lcom/example/request_session_scope/requestsessionscope/Propagation$Mode;"⟩ : MethodName)) (z := (⟨"com/example/request_session_scope/requestsessionscope/Propagation", "mode", "(Z)Lcom/example/request_session_scope/requestsessionscope/Propagation$Mode;"⟩ : MethodName)) hown (mvT hZ (hw _ (List.mem_of_getElem? (i := 11) rfl))) (mvT hZ (hw _ (List.mem_of_getElem? (i := 12) rfl))) (notFace_of_selects (args := #[]) (mvT hZ (hw _ (List.mem_of_getElem? (i := 14) rfl)))) (mvT hZ (hw _ (List.mem_of_getElem? (i := 14) rfl))) (mvT hZ (hw _ (List.mem_of_getElem? (i := 13) rfl))) (by decide) (backOf (W := 0) (own_rm_mode l Z a0 hw [] (own_pick w_PREQUIRED w_PREQUIRES_NEW w_PMANDATORY w_PNESTED w_PSUPPORTS w_PNOT_SUPPORTED w_PNEVER i) (0 : Int32) (own_in w_MNEW_TRANSACTION w_MNESTED w_MWITHOUT_TRANSACTION w_MREFUSED w_MIN_CALLERS i) (own_out w_MNEW_TRANSACTION w_MNESTED w_MWITHOUT_TRANSACTION w_MREFUSED w_MIN_CALLERS i) h0 n0 Z0 FI FO) hZ (hw _ (List.mem_of_getElem? (i := 15) rfl)) (hw _ (List.mem_of_getElem? (i := 6) rfl)) (by decide) (by decide)) q9a q9c (g := (mkF m 125 #[iv p1, iv p2, iv i, iv 0, rv (own_pick w_PREQUIRED w_PREQUIRES_NEW w_PMANDATORY w_PNESTED w_PSUPPORTS w_PNOT_SUPPORTED w_PNEVER i), rv w_MNEW_TRANSACTION] [(.int 0), (.ref (own_pick w_PREQUIRED w_PREQUIRES_NEW w_PMANDATORY w_PNESTED w_PSUPPORTS w_PNOT_SUPPORTED w_PNEVER i))])) rfl (by rw [hml]; rfl) (Steps.refl _) (argsL := [(.int (0 : Int32))]) (rest := []) (lenOf own_pd1 rfl) rfl (by show 2 * 0 + _ ≤ _; exact Nat.le_of_eq rfl) (hb hby at_125) (fun _ _ => ⟨rfl, e8, (by decide : 0 + 0 ≤ _), (by decide : 0 + 0 ≤ _)⟩)
        dsimp only [Pt.U, Pt.locs, Pt.cells, Pt.slots] at X9 l9 y9 z9 st9 hQ9
        subst l9 y9 z9
        obtain ⟨rfl, N9, eh9⟩ := hQ9
        have M9 := Fr.app M1 N9
        refine own_tr st9 ?_
        show own_Go p e below _ T9 (mkF m 128 #[iv p1, iv p2, iv i, iv 0, rv (own_pick w_PREQUIRED w_PREQUIRES_NEW w_PMANDATORY w_PNESTED w_PSUPPORTS w_PNOT_SUPPORTED w_PNEVER i), rv w_MNEW_TRANSACTION] [(.ref (if (0 : Int32) = 0 then (own_out w_MNEW_TRANSACTION w_MNESTED w_MWITHOUT_TRANSACTION w_MREFUSED w_MIN_CALLERS i) else (own_in w_MNEW_TRANSACTION w_MNESTED w_MWITHOUT_TRANSACTION w_MREFUSED w_MIN_CALLERS i)))])
        refine own_st (fun _ k => XS.aload X9.here hx rfl (hb hby at_128) rfl rfl k) ?_
        show own_Go p e below _ T9 (mkF m 130 #[iv p1, iv p2, iv i, iv 0, rv (own_pick w_PREQUIRED w_PREQUIRES_NEW w_PMANDATORY w_PNESTED w_PSUPPORTS w_PNOT_SUPPORTED w_PNEVER i), rv w_MNEW_TRANSACTION] [(.ref w_MNEW_TRANSACTION), (.ref (if (0 : Int32) = 0 then (own_out w_MNEW_TRANSACTION w_MNESTED w_MWITHOUT_TRANSACTION w_MREFUSED w_MIN_CALLERS i) else (own_in w_MNEW_TRANSACTION w_MNESTED w_MWITHOUT_TRANSACTION w_MREFUSED w_MIN_CALLERS i)))])
        refine own_st (fun _ k => XT.acmpNo X9.here hx rfl (hb hby at_130) rfl rfl rfl (XT.aa_ne_f (by simp [own_in, own_out, c0, c1])) k) ?_
        show own_Go p e below _ T9 (mkF m 133 #[iv p1, iv p2, iv i, iv 0, rv (own_pick w_PREQUIRED w_PREQUIRES_NEW w_PMANDATORY w_PNESTED w_PSUPPORTS w_PNOT_SUPPORTED w_PNEVER i), rv w_MNEW_TRANSACTION] [])
        refine own_st (fun _ k => XT.iconstV X9.here hx rfl (1 : Int32) (hb hby at_133) (by decide) k) ?_
        show own_Go p e below _ T9 (mkF m 134 #[iv p1, iv p2, iv i, iv 0, rv (own_pick w_PREQUIRED w_PREQUIRES_NEW w_PMANDATORY w_PNESTED w_PSUPPORTS w_PNOT_SUPPORTED w_PNEVER i), rv w_MNEW_TRANSACTION] [(.int 1)])
        refine own_st (fun _ k => XS.goto X9.here hx rfl (pc0 := 134) (pc' := 138) rfl (hb hby at_134) (by decide) (by decide) k) ?_
        show own_Go p e below _ T9 (mkF m 138 #[iv p1, iv p2, iv i, iv 0, rv (own_pick w_PREQUIRED w_PREQUIRES_NEW w_PMANDATORY w_PNESTED w_PSUPPORTS w_PNOT_SUPPORTED w_PNEVER i), rv w_MNEW_TRANSACTION] [(.int 1)])
        refine own_retN X9 hx Bd.notSynchronized (t := .boolean) Bd.returns (by simp) (hb hby at_138) (by decide) (by decide) ?_
        rw [eh9]
        exact ⟨rfl, M9⟩
  · refine own_st (fun _ k => XS.ifNo X0.here hx rfl (hb hby at_11) rfl (XT.i0_eq_f hf) k) ?_
    show own_Go p e below _ s₁ (mkF m 14 #[iv p1, iv p2, iv i, .unset, .unset, .unset] [])
    refine own_st (fun _ k => XT.iconstV X0.here hx rfl (1 : Int32) (hb hby at_14) (by decide) k) ?_
    show own_Go p e below _ s₁ (mkF m 15 #[iv p1, iv p2, iv i, .unset, .unset, .unset] [(.int 1)])
    refine own_st (fun _ k => XS.goto X0.here hx rfl (pc0 := 15) (pc' := 19) rfl (hb hby at_15) (by decide) (by decide) k) ?_
    show own_Go p e below _ s₁ (mkF m 19 #[iv p1, iv p2, iv i, .unset, .unset, .unset] [(.int 1)])
    refine own_st (fun _ k => XS.istoreN X0.here hx rfl (hb hby at_19) rfl (l' := #[iv p1, iv p2, iv i, iv 1, .unset, .unset]) rfl k) ?_
    show own_Go p e below _ s₁ (mkF m 20 #[iv p1, iv p2, iv i, iv 1, .unset, .unset] [])
    refine own_st (fun _ k => XS.iloadN X0.here hx rfl (hb hby at_20) rfl k) ?_
    show own_Go p e below _ s₁ (mkF m 21 #[iv p1, iv p2, iv i, iv 1, .unset, .unset] [(.int i)])
    obtain ⟨_, _, ⟨T11, L11, k11, n11⟩, -, X11, ⟨Lc11, hQ11, l11, y11, z11⟩, st11⟩ := Jvm.LawKit.callS X0 hx (y := (⟨"com/example/request_session_scope/requestsessionscope/PropagationModePinLaw", "pick", "(I)Lcom/example/request_session_scope/requestsessionscope/Propagation;"⟩ : MethodName)) hown (mvT hZ (hw _ (List.mem_of_getElem? (i := 1) rfl))) (mvT hZ (hw _ (List.mem_of_getElem? (i := 2) rfl))) (mvT hZ (hw _ (List.mem_of_getElem? (i := 3) rfl))) (mvT hZ (hw _ (List.mem_of_getElem? (i := 4) rfl))) (by decide) (backOf (W := 0) (own_rm_pick l Z a0 hw [] i w_PREQUIRED w_PREQUIRES_NEW w_PMANDATORY w_PNESTED w_PSUPPORTS w_PNOT_SUPPORTED w_PNEVER h0 n0 Z0 S_PREQUIRED S_PREQUIRES_NEW S_PMANDATORY S_PNESTED S_PSUPPORTS S_PNOT_SUPPORTED S_PNEVER) hZ (hw _ (List.mem_of_getElem? (i := 4) rfl)) (hw _ (List.mem_of_getElem? (i := 3) rfl)) (by decide) (by decide)) (g := (mkF m 21 #[iv p1, iv p2, iv i, iv 1, .unset, .unset] [(.int i)])) rfl (by rw [hml]; rfl) (argsL := [(.int i)]) (rest := []) (lenOf own_pd0 rfl) rfl (by show 2 * 0 + _ ≤ _; exact Nat.le_of_eq rfl) (hb hby at_21) (fun _ _ => ⟨rfl, e0, (by decide : 0 + 0 ≤ _), (by decide : 0 + 0 ≤ _)⟩)
    dsimp only [Pt.U, Pt.locs, Pt.cells, Pt.slots] at X11 l11 y11 z11 st11 hQ11
    subst l11 y11 z11
    obtain ⟨rfl, N11, eh11⟩ := hQ11
    have M11 := Fr.app N0 N11
    refine own_st st11 ?_
    show own_Go p e below _ T11 (mkF m 24 #[iv p1, iv p2, iv i, iv 1, .unset, .unset] [(.ref (own_pick w_PREQUIRED w_PREQUIRES_NEW w_PMANDATORY w_PNESTED w_PSUPPORTS w_PNOT_SUPPORTED w_PNEVER i))])
    refine own_st (fun _ k => XS.astore X11.here hx rfl (hb hby at_24) rfl rfl (l' := #[iv p1, iv p2, iv i, iv 1, rv (own_pick w_PREQUIRED w_PREQUIRES_NEW w_PMANDATORY w_PNESTED w_PSUPPORTS w_PNOT_SUPPORTED w_PNEVER i), .unset]) rfl k) ?_
    show own_Go p e below _ T11 (mkF m 26 #[iv p1, iv p2, iv i, iv 1, rv (own_pick w_PREQUIRED w_PREQUIRES_NEW w_PMANDATORY w_PNESTED w_PSUPPORTS w_PNOT_SUPPORTED w_PNEVER i), .unset] [])
    refine own_st (fun _ k => XS.iloadN X11.here hx rfl (hb hby at_26) rfl k) ?_
    show own_Go p e below _ T11 (mkF m 27 #[iv p1, iv p2, iv i, iv 1, rv (own_pick w_PREQUIRED w_PREQUIRES_NEW w_PMANDATORY w_PNESTED w_PSUPPORTS w_PNOT_SUPPORTED w_PNEVER i), .unset] [(.int 1)])
    refine own_st (fun _ k => XS.ifNo X11.here hx rfl (hb hby at_27) rfl (XT.i0_eq_f (by decide)) k) ?_
    show own_Go p e below _ T11 (mkF m 30 #[iv p1, iv p2, iv i, iv 1, rv (own_pick w_PREQUIRED w_PREQUIRES_NEW w_PMANDATORY w_PNESTED w_PSUPPORTS w_PNOT_SUPPORTED w_PNEVER i), .unset] [])
    refine own_st (fun _ k => XS.iloadN X11.here hx rfl (hb hby at_30) rfl k) ?_
    show own_Go p e below _ T11 (mkF m 31 #[iv p1, iv p2, iv i, iv 1, rv (own_pick w_PREQUIRED w_PREQUIRES_NEW w_PMANDATORY w_PNESTED w_PSUPPORTS w_PNOT_SUPPORTED w_PNEVER i), .unset] [(.int i)])
    refine own_st (fun _ k => XT.iconstV X11.here hx rfl (1 : Int32) (hb hby at_31) (by decide) k) ?_
    show own_Go p e below _ T11 (mkF m 32 #[iv p1, iv p2, iv i, iv 1, rv (own_pick w_PREQUIRED w_PREQUIRES_NEW w_PMANDATORY w_PNESTED w_PSUPPORTS w_PNOT_SUPPORTED w_PNEVER i), .unset] [(.int 1), (.int i)])
    by_cases c0 : i = (1 : Int32)
    · refine own_st (fun _ k => XS.icmpNo X11.here hx rfl (hb hby at_32) rfl (XT.ii_ne_f c0) k) ?_
      show own_Go p e below _ T11 (mkF m 35 #[iv p1, iv p2, iv i, iv 1, rv (own_pick w_PREQUIRED w_PREQUIRES_NEW w_PMANDATORY w_PNESTED w_PSUPPORTS w_PNOT_SUPPORTED w_PNEVER i), .unset] [])
      obtain ⟨T12, X12, e12, st12⟩ := getS2 X11 hx hZ hown (host := "") (Or.inl (hw _ (List.mem_of_getElem? (i := 24) rfl))) Via.refl eh11 S_MNEW_TRANSACTION (g := (mkF m 35 #[iv p1, iv p2, iv i, iv 1, rv (own_pick w_PREQUIRED w_PREQUIRES_NEW w_PMANDATORY w_PNESTED w_PSUPPORTS w_PNOT_SUPPORTED w_PNEVER i), .unset] [])) rfl (hb hby at_35)
      refine own_st st12 ?_
      show own_Go p e below _ T12 (mkF m 38 #[iv p1, iv p2, iv i, iv 1, rv (own_pick w_PREQUIRED w_PREQUIRES_NEW w_PMANDATORY w_PNESTED w_PSUPPORTS w_PNOT_SUPPORTED w_PNEVER i), .unset] [(.ref w_MNEW_TRANSACTION)])
      refine own_st (fun _ k => XS.astore X12.here hx rfl (hb hby at_38) rfl rfl (l' := #[iv p1, iv p2, iv i, iv 1, rv (own_pick w_PREQUIRED w_PREQUIRES_NEW w_PMANDATORY w_PNESTED w_PSUPPORTS w_PNOT_SUPPORTED w_PNEVER i), rv w_MNEW_TRANSACTION]) rfl k) ?_
      show own_Go p e below _ T12 (mkF m 40 #[iv p1, iv p2, iv i, iv 1, rv (own_pick w_PREQUIRED w_PREQUIRES_NEW w_PMANDATORY w_PNESTED w_PSUPPORTS w_PNOT_SUPPORTED w_PNEVER i), rv w_MNEW_TRANSACTION] [])
      refine own_st (fun _ k => XS.goto X12.here hx rfl (pc0 := 40) (pc' := 122) rfl (hb hby at_40) (by decide) (by decide) k) ?_
      show own_Go p e below _ T12 (mkF m 122 #[iv p1, iv p2, iv i, iv 1, rv (own_pick w_PREQUIRED w_PREQUIRES_NEW w_PMANDATORY w_PNESTED w_PSUPPORTS w_PNOT_SUPPORTED w_PNEVER i), rv w_MNEW_TRANSACTION] [])
      refine own_st (fun _ k => XS.aload X12.here hx rfl (hb hby at_122) rfl rfl k) ?_
      show own_Go p e below _ T12 (mkF m 124 #[iv p1, iv p2, iv i, iv 1, rv (own_pick w_PREQUIRED w_PREQUIRES_NEW w_PMANDATORY w_PNESTED w_PSUPPORTS w_PNOT_SUPPORTED w_PNEVER i), rv w_MNEW_TRANSACTION] [(.ref (own_pick w_PREQUIRED w_PREQUIRES_NEW w_PMANDATORY w_PNESTED w_PSUPPORTS w_PNOT_SUPPORTED w_PNEVER i))])
      refine own_st (fun _ k => XS.iloadN X12.here hx rfl (hb hby at_124) rfl k) ?_
      show own_Go p e below _ T12 (mkF m 125 #[iv p1, iv p2, iv i, iv 1, rv (own_pick w_PREQUIRED w_PREQUIRES_NEW w_PMANDATORY w_PNESTED w_PSUPPORTS w_PNOT_SUPPORTED w_PNEVER i), rv w_MNEW_TRANSACTION] [(.int 1), (.ref (own_pick w_PREQUIRED w_PREQUIRES_NEW w_PMANDATORY w_PNESTED w_PSUPPORTS w_PNOT_SUPPORTED w_PNEVER i))])
      obtain ⟨cq13, kq13, q13a, q13b, q13c⟩ := isOf hZ e12 EE
      obtain ⟨_, _, ⟨T13, L13, k13, n13⟩, -, X13, ⟨Lc13, hQ13, l13, y13, z13⟩, st13⟩ := X12.virtualBack hx (y := (⟨"com/example/request_session_scope/requestsessionscope/Propagation", "mode", "(Z)Lcom/example/request_session_scope/requestsessionscope/Propagation$Mode;"⟩ : MethodName)) (z := (⟨"com/example/request_session_scope/requestsessionscope/Propagation", "mode", "(Z)Lcom/example/request_session_scope/requestsessionscope/Propagation$Mode;"⟩ : MethodName)) hown (mvT hZ (hw _ (List.mem_of_getElem? (i := 11) rfl))) (mvT hZ (hw _ (List.mem_of_getElem? (i := 12) rfl))) (notFace_of_selects (args := #[]) (mvT hZ (hw _ (List.mem_of_getElem? (i := 14) rfl)))) (mvT hZ (hw _ (List.mem_of_getElem? (i := 14) rfl))) (mvT hZ (hw _ (List.mem_of_getElem? (i := 13) rfl))) (by decide) (backOf (W := 0) (own_rm_mode l Z a0 hw [] (own_pick w_PREQUIRED w_PREQUIRES_NEW w_PMANDATORY w_PNESTED w_PSUPPORTS w_PNOT_SUPPORTED w_PNEVER i) (1 : Int32) (own_in w_MNEW_TRANSACTION w_MNESTED w_MWITHOUT_TRANSACTION w_MREFUSED w_MIN_CALLERS i) (own_out w_MNEW_TRANSACTION w_MNESTED w_MWITHOUT_TRANSACTION w_MREFUSED w_MIN_CALLERS i) h0 n0 Z0 FI FO) hZ (hw _ (List.mem_of_getElem? (i := 15) rfl)) (hw _ (List.mem_of_getElem? (i := 6) rfl)) (by decide) (by decide)) q13a q13c (g := (mkF m 125 #[iv p1, iv p2, iv i, iv 1, rv (own_pick w_PREQUIRED w_PREQUIRES_NEW w_PMANDATORY w_PNESTED w_PSUPPORTS w_PNOT_SUPPORTED w_PNEVER i), rv w_MNEW_TRANSACTION] [(.int 1), (.ref (own_pick w_PREQUIRED w_PREQUIRES_NEW w_PMANDATORY w_PNESTED w_PSUPPORTS w_PNOT_SUPPORTED w_PNEVER i))])) rfl (by rw [hml]; rfl) (Steps.refl _) (argsL := [(.int (1 : Int32))]) (rest := []) (lenOf own_pd1 rfl) rfl (by show 2 * 0 + _ ≤ _; exact Nat.le_of_eq rfl) (hb hby at_125) (fun _ _ => ⟨rfl, e12, (by decide : 0 + 0 ≤ _), (by decide : 0 + 0 ≤ _)⟩)
      dsimp only [Pt.U, Pt.locs, Pt.cells, Pt.slots] at X13 l13 y13 z13 st13 hQ13
      subst l13 y13 z13
      obtain ⟨rfl, N13, eh13⟩ := hQ13
      have M13 := Fr.app M11 N13
      refine own_tr st13 ?_
      show own_Go p e below _ T13 (mkF m 128 #[iv p1, iv p2, iv i, iv 1, rv (own_pick w_PREQUIRED w_PREQUIRES_NEW w_PMANDATORY w_PNESTED w_PSUPPORTS w_PNOT_SUPPORTED w_PNEVER i), rv w_MNEW_TRANSACTION] [(.ref (if (1 : Int32) = 0 then (own_out w_MNEW_TRANSACTION w_MNESTED w_MWITHOUT_TRANSACTION w_MREFUSED w_MIN_CALLERS i) else (own_in w_MNEW_TRANSACTION w_MNESTED w_MWITHOUT_TRANSACTION w_MREFUSED w_MIN_CALLERS i)))])
      refine own_st (fun _ k => XS.aload X13.here hx rfl (hb hby at_128) rfl rfl k) ?_
      show own_Go p e below _ T13 (mkF m 130 #[iv p1, iv p2, iv i, iv 1, rv (own_pick w_PREQUIRED w_PREQUIRES_NEW w_PMANDATORY w_PNESTED w_PSUPPORTS w_PNOT_SUPPORTED w_PNEVER i), rv w_MNEW_TRANSACTION] [(.ref w_MNEW_TRANSACTION), (.ref (if (1 : Int32) = 0 then (own_out w_MNEW_TRANSACTION w_MNESTED w_MWITHOUT_TRANSACTION w_MREFUSED w_MIN_CALLERS i) else (own_in w_MNEW_TRANSACTION w_MNESTED w_MWITHOUT_TRANSACTION w_MREFUSED w_MIN_CALLERS i)))])
      refine own_st (fun _ k => XT.acmpNo X13.here hx rfl (hb hby at_130) rfl rfl rfl (XT.aa_ne_f (by simp [own_in, own_out, c0])) k) ?_
      show own_Go p e below _ T13 (mkF m 133 #[iv p1, iv p2, iv i, iv 1, rv (own_pick w_PREQUIRED w_PREQUIRES_NEW w_PMANDATORY w_PNESTED w_PSUPPORTS w_PNOT_SUPPORTED w_PNEVER i), rv w_MNEW_TRANSACTION] [])
      refine own_st (fun _ k => XT.iconstV X13.here hx rfl (1 : Int32) (hb hby at_133) (by decide) k) ?_
      show own_Go p e below _ T13 (mkF m 134 #[iv p1, iv p2, iv i, iv 1, rv (own_pick w_PREQUIRED w_PREQUIRES_NEW w_PMANDATORY w_PNESTED w_PSUPPORTS w_PNOT_SUPPORTED w_PNEVER i), rv w_MNEW_TRANSACTION] [(.int 1)])
      refine own_st (fun _ k => XS.goto X13.here hx rfl (pc0 := 134) (pc' := 138) rfl (hb hby at_134) (by decide) (by decide) k) ?_
      show own_Go p e below _ T13 (mkF m 138 #[iv p1, iv p2, iv i, iv 1, rv (own_pick w_PREQUIRED w_PREQUIRES_NEW w_PMANDATORY w_PNESTED w_PSUPPORTS w_PNOT_SUPPORTED w_PNEVER i), rv w_MNEW_TRANSACTION] [(.int 1)])
      refine own_retN X13 hx Bd.notSynchronized (t := .boolean) Bd.returns (by simp) (hb hby at_138) (by decide) (by decide) ?_
      rw [eh13]
      exact ⟨rfl, M13⟩
    · refine own_st (fun _ k => XS.icmpYes X11.here hx rfl (pc0 := 32) (pc' := 43) rfl (hb hby at_32) rfl (XT.ii_ne_t c0) (by decide) (by decide) k) ?_
      show own_Go p e below _ T11 (mkF m 43 #[iv p1, iv p2, iv i, iv 1, rv (own_pick w_PREQUIRED w_PREQUIRES_NEW w_PMANDATORY w_PNESTED w_PSUPPORTS w_PNOT_SUPPORTED w_PNEVER i), .unset] [])
      refine own_st (fun _ k => XS.iloadN X11.here hx rfl (hb hby at_43) rfl k) ?_
      show own_Go p e below _ T11 (mkF m 44 #[iv p1, iv p2, iv i, iv 1, rv (own_pick w_PREQUIRED w_PREQUIRES_NEW w_PMANDATORY w_PNESTED w_PSUPPORTS w_PNOT_SUPPORTED w_PNEVER i), .unset] [(.int i)])
      refine own_st (fun _ k => XT.iconstV X11.here hx rfl (3 : Int32) (hb hby at_44) (by decide) k) ?_
      show own_Go p e below _ T11 (mkF m 45 #[iv p1, iv p2, iv i, iv 1, rv (own_pick w_PREQUIRED w_PREQUIRES_NEW w_PMANDATORY w_PNESTED w_PSUPPORTS w_PNOT_SUPPORTED w_PNEVER i), .unset] [(.int 3), (.int i)])
      by_cases c1 : i = (3 : Int32)
      · refine own_st (fun _ k => XS.icmpNo X11.here hx rfl (hb hby at_45) rfl (XT.ii_ne_f c1) k) ?_
        show own_Go p e below _ T11 (mkF m 48 #[iv p1, iv p2, iv i, iv 1, rv (own_pick w_PREQUIRED w_PREQUIRES_NEW w_PMANDATORY w_PNESTED w_PSUPPORTS w_PNOT_SUPPORTED w_PNEVER i), .unset] [])
        obtain ⟨T15, X15, e15, st15⟩ := getS2 X11 hx hZ hown (host := "") (Or.inl (hw _ (List.mem_of_getElem? (i := 20) rfl))) Via.refl eh11 S_MNESTED (g := (mkF m 48 #[iv p1, iv p2, iv i, iv 1, rv (own_pick w_PREQUIRED w_PREQUIRES_NEW w_PMANDATORY w_PNESTED w_PSUPPORTS w_PNOT_SUPPORTED w_PNEVER i), .unset] [])) rfl (hb hby at_48)
        refine own_st st15 ?_
        show own_Go p e below _ T15 (mkF m 51 #[iv p1, iv p2, iv i, iv 1, rv (own_pick w_PREQUIRED w_PREQUIRES_NEW w_PMANDATORY w_PNESTED w_PSUPPORTS w_PNOT_SUPPORTED w_PNEVER i), .unset] [(.ref w_MNESTED)])
        refine own_st (fun _ k => XS.astore X15.here hx rfl (hb hby at_51) rfl rfl (l' := #[iv p1, iv p2, iv i, iv 1, rv (own_pick w_PREQUIRED w_PREQUIRES_NEW w_PMANDATORY w_PNESTED w_PSUPPORTS w_PNOT_SUPPORTED w_PNEVER i), rv w_MNESTED]) rfl k) ?_
        show own_Go p e below _ T15 (mkF m 53 #[iv p1, iv p2, iv i, iv 1, rv (own_pick w_PREQUIRED w_PREQUIRES_NEW w_PMANDATORY w_PNESTED w_PSUPPORTS w_PNOT_SUPPORTED w_PNEVER i), rv w_MNESTED] [])
        refine own_st (fun _ k => XS.goto X15.here hx rfl (pc0 := 53) (pc' := 122) rfl (hb hby at_53) (by decide) (by decide) k) ?_
        show own_Go p e below _ T15 (mkF m 122 #[iv p1, iv p2, iv i, iv 1, rv (own_pick w_PREQUIRED w_PREQUIRES_NEW w_PMANDATORY w_PNESTED w_PSUPPORTS w_PNOT_SUPPORTED w_PNEVER i), rv w_MNESTED] [])
        refine own_st (fun _ k => XS.aload X15.here hx rfl (hb hby at_122) rfl rfl k) ?_
        show own_Go p e below _ T15 (mkF m 124 #[iv p1, iv p2, iv i, iv 1, rv (own_pick w_PREQUIRED w_PREQUIRES_NEW w_PMANDATORY w_PNESTED w_PSUPPORTS w_PNOT_SUPPORTED w_PNEVER i), rv w_MNESTED] [(.ref (own_pick w_PREQUIRED w_PREQUIRES_NEW w_PMANDATORY w_PNESTED w_PSUPPORTS w_PNOT_SUPPORTED w_PNEVER i))])
        refine own_st (fun _ k => XS.iloadN X15.here hx rfl (hb hby at_124) rfl k) ?_
        show own_Go p e below _ T15 (mkF m 125 #[iv p1, iv p2, iv i, iv 1, rv (own_pick w_PREQUIRED w_PREQUIRES_NEW w_PMANDATORY w_PNESTED w_PSUPPORTS w_PNOT_SUPPORTED w_PNEVER i), rv w_MNESTED] [(.int 1), (.ref (own_pick w_PREQUIRED w_PREQUIRES_NEW w_PMANDATORY w_PNESTED w_PSUPPORTS w_PNOT_SUPPORTED w_PNEVER i))])
        obtain ⟨cq16, kq16, q16a, q16b, q16c⟩ := isOf hZ e15 EE
        obtain ⟨_, _, ⟨T16, L16, k16, n16⟩, -, X16, ⟨Lc16, hQ16, l16, y16, z16⟩, st16⟩ := X15.virtualBack hx (y := (⟨"com/example/request_session_scope/requestsessionscope/Propagation", "mode", "(Z)Lcom/example/request_session_scope/requestsessionscope/Propagation$Mode;"⟩ : MethodName)) (z := (⟨"com/example/request_session_scope/requestsessionscope/Propagation", "mode", "(Z)Lcom/example/request_session_scope/requestsessionscope/Propagation$Mode;"⟩ : MethodName)) hown (mvT hZ (hw _ (List.mem_of_getElem? (i := 11) rfl))) (mvT hZ (hw _ (List.mem_of_getElem? (i := 12) rfl))) (notFace_of_selects (args := #[]) (mvT hZ (hw _ (List.mem_of_getElem? (i := 14) rfl)))) (mvT hZ (hw _ (List.mem_of_getElem? (i := 14) rfl))) (mvT hZ (hw _ (List.mem_of_getElem? (i := 13) rfl))) (by decide) (backOf (W := 0) (own_rm_mode l Z a0 hw [] (own_pick w_PREQUIRED w_PREQUIRES_NEW w_PMANDATORY w_PNESTED w_PSUPPORTS w_PNOT_SUPPORTED w_PNEVER i) (1 : Int32) (own_in w_MNEW_TRANSACTION w_MNESTED w_MWITHOUT_TRANSACTION w_MREFUSED w_MIN_CALLERS i) (own_out w_MNEW_TRANSACTION w_MNESTED w_MWITHOUT_TRANSACTION w_MREFUSED w_MIN_CALLERS i) h0 n0 Z0 FI FO) hZ (hw _ (List.mem_of_getElem? (i := 15) rfl)) (hw _ (List.mem_of_getElem? (i := 6) rfl)) (by decide) (by decide)) q16a q16c (g := (mkF m 125 #[iv p1, iv p2, iv i, iv 1, rv (own_pick w_PREQUIRED w_PREQUIRES_NEW w_PMANDATORY w_PNESTED w_PSUPPORTS w_PNOT_SUPPORTED w_PNEVER i), rv w_MNESTED] [(.int 1), (.ref (own_pick w_PREQUIRED w_PREQUIRES_NEW w_PMANDATORY w_PNESTED w_PSUPPORTS w_PNOT_SUPPORTED w_PNEVER i))])) rfl (by rw [hml]; rfl) (Steps.refl _) (argsL := [(.int (1 : Int32))]) (rest := []) (lenOf own_pd1 rfl) rfl (by show 2 * 0 + _ ≤ _; exact Nat.le_of_eq rfl) (hb hby at_125) (fun _ _ => ⟨rfl, e15, (by decide : 0 + 0 ≤ _), (by decide : 0 + 0 ≤ _)⟩)
        dsimp only [Pt.U, Pt.locs, Pt.cells, Pt.slots] at X16 l16 y16 z16 st16 hQ16
        subst l16 y16 z16
        obtain ⟨rfl, N16, eh16⟩ := hQ16
        have M16 := Fr.app M11 N16
        refine own_tr st16 ?_
        show own_Go p e below _ T16 (mkF m 128 #[iv p1, iv p2, iv i, iv 1, rv (own_pick w_PREQUIRED w_PREQUIRES_NEW w_PMANDATORY w_PNESTED w_PSUPPORTS w_PNOT_SUPPORTED w_PNEVER i), rv w_MNESTED] [(.ref (if (1 : Int32) = 0 then (own_out w_MNEW_TRANSACTION w_MNESTED w_MWITHOUT_TRANSACTION w_MREFUSED w_MIN_CALLERS i) else (own_in w_MNEW_TRANSACTION w_MNESTED w_MWITHOUT_TRANSACTION w_MREFUSED w_MIN_CALLERS i)))])
        refine own_st (fun _ k => XS.aload X16.here hx rfl (hb hby at_128) rfl rfl k) ?_
        show own_Go p e below _ T16 (mkF m 130 #[iv p1, iv p2, iv i, iv 1, rv (own_pick w_PREQUIRED w_PREQUIRES_NEW w_PMANDATORY w_PNESTED w_PSUPPORTS w_PNOT_SUPPORTED w_PNEVER i), rv w_MNESTED] [(.ref w_MNESTED), (.ref (if (1 : Int32) = 0 then (own_out w_MNEW_TRANSACTION w_MNESTED w_MWITHOUT_TRANSACTION w_MREFUSED w_MIN_CALLERS i) else (own_in w_MNEW_TRANSACTION w_MNESTED w_MWITHOUT_TRANSACTION w_MREFUSED w_MIN_CALLERS i)))])
        refine own_st (fun _ k => XT.acmpNo X16.here hx rfl (hb hby at_130) rfl rfl rfl (XT.aa_ne_f (by simp [own_in, own_out, c0, c1])) k) ?_
        show own_Go p e below _ T16 (mkF m 133 #[iv p1, iv p2, iv i, iv 1, rv (own_pick w_PREQUIRED w_PREQUIRES_NEW w_PMANDATORY w_PNESTED w_PSUPPORTS w_PNOT_SUPPORTED w_PNEVER i), rv w_MNESTED] [])
        refine own_st (fun _ k => XT.iconstV X16.here hx rfl (1 : Int32) (hb hby at_133) (by decide) k) ?_
        show own_Go p e below _ T16 (mkF m 134 #[iv p1, iv p2, iv i, iv 1, rv (own_pick w_PREQUIRED w_PREQUIRES_NEW w_PMANDATORY w_PNESTED w_PSUPPORTS w_PNOT_SUPPORTED w_PNEVER i), rv w_MNESTED] [(.int 1)])
        refine own_st (fun _ k => XS.goto X16.here hx rfl (pc0 := 134) (pc' := 138) rfl (hb hby at_134) (by decide) (by decide) k) ?_
        show own_Go p e below _ T16 (mkF m 138 #[iv p1, iv p2, iv i, iv 1, rv (own_pick w_PREQUIRED w_PREQUIRES_NEW w_PMANDATORY w_PNESTED w_PSUPPORTS w_PNOT_SUPPORTED w_PNEVER i), rv w_MNESTED] [(.int 1)])
        refine own_retN X16 hx Bd.notSynchronized (t := .boolean) Bd.returns (by simp) (hb hby at_138) (by decide) (by decide) ?_
        rw [eh16]
        exact ⟨rfl, M16⟩
      · refine own_st (fun _ k => XS.icmpYes X11.here hx rfl (pc0 := 45) (pc' := 56) rfl (hb hby at_45) rfl (XT.ii_ne_t c1) (by decide) (by decide) k) ?_
        show own_Go p e below _ T11 (mkF m 56 #[iv p1, iv p2, iv i, iv 1, rv (own_pick w_PREQUIRED w_PREQUIRES_NEW w_PMANDATORY w_PNESTED w_PSUPPORTS w_PNOT_SUPPORTED w_PNEVER i), .unset] [])
        refine own_st (fun _ k => XS.iloadN X11.here hx rfl (hb hby at_56) rfl k) ?_
        show own_Go p e below _ T11 (mkF m 57 #[iv p1, iv p2, iv i, iv 1, rv (own_pick w_PREQUIRED w_PREQUIRES_NEW w_PMANDATORY w_PNESTED w_PSUPPORTS w_PNOT_SUPPORTED w_PNEVER i), .unset] [(.int i)])
        refine own_st (fun _ k => XT.iconstV X11.here hx rfl (5 : Int32) (hb hby at_57) (by decide) k) ?_
        show own_Go p e below _ T11 (mkF m 58 #[iv p1, iv p2, iv i, iv 1, rv (own_pick w_PREQUIRED w_PREQUIRES_NEW w_PMANDATORY w_PNESTED w_PSUPPORTS w_PNOT_SUPPORTED w_PNEVER i), .unset] [(.int 5), (.int i)])
        by_cases c2 : i = (5 : Int32)
        · refine own_st (fun _ k => XS.icmpNo X11.here hx rfl (hb hby at_58) rfl (XT.ii_ne_f c2) k) ?_
          show own_Go p e below _ T11 (mkF m 61 #[iv p1, iv p2, iv i, iv 1, rv (own_pick w_PREQUIRED w_PREQUIRES_NEW w_PMANDATORY w_PNESTED w_PSUPPORTS w_PNOT_SUPPORTED w_PNEVER i), .unset] [])
          obtain ⟨T18, X18, e18, st18⟩ := getS2 X11 hx hZ hown (host := "") (Or.inl (hw _ (List.mem_of_getElem? (i := 34) rfl))) Via.refl eh11 S_MWITHOUT_TRANSACTION (g := (mkF m 61 #[iv p1, iv p2, iv i, iv 1, rv (own_pick w_PREQUIRED w_PREQUIRES_NEW w_PMANDATORY w_PNESTED w_PSUPPORTS w_PNOT_SUPPORTED w_PNEVER i), .unset] [])) rfl (hb hby at_61)
          refine own_st st18 ?_
          show own_Go p e below _ T18 (mkF m 64 #[iv p1, iv p2, iv i, iv 1, rv (own_pick w_PREQUIRED w_PREQUIRES_NEW w_PMANDATORY w_PNESTED w_PSUPPORTS w_PNOT_SUPPORTED w_PNEVER i), .unset] [(.ref w_MWITHOUT_TRANSACTION)])
          refine own_st (fun _ k => XS.astore X18.here hx rfl (hb hby at_64) rfl rfl (l' := #[iv p1, iv p2, iv i, iv 1, rv (own_pick w_PREQUIRED w_PREQUIRES_NEW w_PMANDATORY w_PNESTED w_PSUPPORTS w_PNOT_SUPPORTED w_PNEVER i), rv w_MWITHOUT_TRANSACTION]) rfl k) ?_
          show own_Go p e below _ T18 (mkF m 66 #[iv p1, iv p2, iv i, iv 1, rv (own_pick w_PREQUIRED w_PREQUIRES_NEW w_PMANDATORY w_PNESTED w_PSUPPORTS w_PNOT_SUPPORTED w_PNEVER i), rv w_MWITHOUT_TRANSACTION] [])
          refine own_st (fun _ k => XS.goto X18.here hx rfl (pc0 := 66) (pc' := 122) rfl (hb hby at_66) (by decide) (by decide) k) ?_
          show own_Go p e below _ T18 (mkF m 122 #[iv p1, iv p2, iv i, iv 1, rv (own_pick w_PREQUIRED w_PREQUIRES_NEW w_PMANDATORY w_PNESTED w_PSUPPORTS w_PNOT_SUPPORTED w_PNEVER i), rv w_MWITHOUT_TRANSACTION] [])
          refine own_st (fun _ k => XS.aload X18.here hx rfl (hb hby at_122) rfl rfl k) ?_
          show own_Go p e below _ T18 (mkF m 124 #[iv p1, iv p2, iv i, iv 1, rv (own_pick w_PREQUIRED w_PREQUIRES_NEW w_PMANDATORY w_PNESTED w_PSUPPORTS w_PNOT_SUPPORTED w_PNEVER i), rv w_MWITHOUT_TRANSACTION] [(.ref (own_pick w_PREQUIRED w_PREQUIRES_NEW w_PMANDATORY w_PNESTED w_PSUPPORTS w_PNOT_SUPPORTED w_PNEVER i))])
          refine own_st (fun _ k => XS.iloadN X18.here hx rfl (hb hby at_124) rfl k) ?_
          show own_Go p e below _ T18 (mkF m 125 #[iv p1, iv p2, iv i, iv 1, rv (own_pick w_PREQUIRED w_PREQUIRES_NEW w_PMANDATORY w_PNESTED w_PSUPPORTS w_PNOT_SUPPORTED w_PNEVER i), rv w_MWITHOUT_TRANSACTION] [(.int 1), (.ref (own_pick w_PREQUIRED w_PREQUIRES_NEW w_PMANDATORY w_PNESTED w_PSUPPORTS w_PNOT_SUPPORTED w_PNEVER i))])
          obtain ⟨cq19, kq19, q19a, q19b, q19c⟩ := isOf hZ e18 EE
          obtain ⟨_, _, ⟨T19, L19, k19, n19⟩, -, X19, ⟨Lc19, hQ19, l19, y19, z19⟩, st19⟩ := X18.virtualBack hx (y := (⟨"com/example/request_session_scope/requestsessionscope/Propagation", "mode", "(Z)Lcom/example/request_session_scope/requestsessionscope/Propagation$Mode;"⟩ : MethodName)) (z := (⟨"com/example/request_session_scope/requestsessionscope/Propagation", "mode", "(Z)Lcom/example/request_session_scope/requestsessionscope/Propagation$Mode;"⟩ : MethodName)) hown (mvT hZ (hw _ (List.mem_of_getElem? (i := 11) rfl))) (mvT hZ (hw _ (List.mem_of_getElem? (i := 12) rfl))) (notFace_of_selects (args := #[]) (mvT hZ (hw _ (List.mem_of_getElem? (i := 14) rfl)))) (mvT hZ (hw _ (List.mem_of_getElem? (i := 14) rfl))) (mvT hZ (hw _ (List.mem_of_getElem? (i := 13) rfl))) (by decide) (backOf (W := 0) (own_rm_mode l Z a0 hw [] (own_pick w_PREQUIRED w_PREQUIRES_NEW w_PMANDATORY w_PNESTED w_PSUPPORTS w_PNOT_SUPPORTED w_PNEVER i) (1 : Int32) (own_in w_MNEW_TRANSACTION w_MNESTED w_MWITHOUT_TRANSACTION w_MREFUSED w_MIN_CALLERS i) (own_out w_MNEW_TRANSACTION w_MNESTED w_MWITHOUT_TRANSACTION w_MREFUSED w_MIN_CALLERS i) h0 n0 Z0 FI FO) hZ (hw _ (List.mem_of_getElem? (i := 15) rfl)) (hw _ (List.mem_of_getElem? (i := 6) rfl)) (by decide) (by decide)) q19a q19c (g := (mkF m 125 #[iv p1, iv p2, iv i, iv 1, rv (own_pick w_PREQUIRED w_PREQUIRES_NEW w_PMANDATORY w_PNESTED w_PSUPPORTS w_PNOT_SUPPORTED w_PNEVER i), rv w_MWITHOUT_TRANSACTION] [(.int 1), (.ref (own_pick w_PREQUIRED w_PREQUIRES_NEW w_PMANDATORY w_PNESTED w_PSUPPORTS w_PNOT_SUPPORTED w_PNEVER i))])) rfl (by rw [hml]; rfl) (Steps.refl _) (argsL := [(.int (1 : Int32))]) (rest := []) (lenOf own_pd1 rfl) rfl (by show 2 * 0 + _ ≤ _; exact Nat.le_of_eq rfl) (hb hby at_125) (fun _ _ => ⟨rfl, e18, (by decide : 0 + 0 ≤ _), (by decide : 0 + 0 ≤ _)⟩)
          dsimp only [Pt.U, Pt.locs, Pt.cells, Pt.slots] at X19 l19 y19 z19 st19 hQ19
          subst l19 y19 z19
          obtain ⟨rfl, N19, eh19⟩ := hQ19
          have M19 := Fr.app M11 N19
          refine own_tr st19 ?_
          show own_Go p e below _ T19 (mkF m 128 #[iv p1, iv p2, iv i, iv 1, rv (own_pick w_PREQUIRED w_PREQUIRES_NEW w_PMANDATORY w_PNESTED w_PSUPPORTS w_PNOT_SUPPORTED w_PNEVER i), rv w_MWITHOUT_TRANSACTION] [(.ref (if (1 : Int32) = 0 then (own_out w_MNEW_TRANSACTION w_MNESTED w_MWITHOUT_TRANSACTION w_MREFUSED w_MIN_CALLERS i) else (own_in w_MNEW_TRANSACTION w_MNESTED w_MWITHOUT_TRANSACTION w_MREFUSED w_MIN_CALLERS i)))])
          refine own_st (fun _ k => XS.aload X19.here hx rfl (hb hby at_128) rfl rfl k) ?_
          show own_Go p e below _ T19 (mkF m 130 #[iv p1, iv p2, iv i, iv 1, rv (own_pick w_PREQUIRED w_PREQUIRES_NEW w_PMANDATORY w_PNESTED w_PSUPPORTS w_PNOT_SUPPORTED w_PNEVER i), rv w_MWITHOUT_TRANSACTION] [(.ref w_MWITHOUT_TRANSACTION), (.ref (if (1 : Int32) = 0 then (own_out w_MNEW_TRANSACTION w_MNESTED w_MWITHOUT_TRANSACTION w_MREFUSED w_MIN_CALLERS i) else (own_in w_MNEW_TRANSACTION w_MNESTED w_MWITHOUT_TRANSACTION w_MREFUSED w_MIN_CALLERS i)))])
          refine own_st (fun _ k => XT.acmpNo X19.here hx rfl (hb hby at_130) rfl rfl rfl (XT.aa_ne_f (by simp [own_in, own_out, c0, c1, c2])) k) ?_
          show own_Go p e below _ T19 (mkF m 133 #[iv p1, iv p2, iv i, iv 1, rv (own_pick w_PREQUIRED w_PREQUIRES_NEW w_PMANDATORY w_PNESTED w_PSUPPORTS w_PNOT_SUPPORTED w_PNEVER i), rv w_MWITHOUT_TRANSACTION] [])
          refine own_st (fun _ k => XT.iconstV X19.here hx rfl (1 : Int32) (hb hby at_133) (by decide) k) ?_
          show own_Go p e below _ T19 (mkF m 134 #[iv p1, iv p2, iv i, iv 1, rv (own_pick w_PREQUIRED w_PREQUIRES_NEW w_PMANDATORY w_PNESTED w_PSUPPORTS w_PNOT_SUPPORTED w_PNEVER i), rv w_MWITHOUT_TRANSACTION] [(.int 1)])
          refine own_st (fun _ k => XS.goto X19.here hx rfl (pc0 := 134) (pc' := 138) rfl (hb hby at_134) (by decide) (by decide) k) ?_
          show own_Go p e below _ T19 (mkF m 138 #[iv p1, iv p2, iv i, iv 1, rv (own_pick w_PREQUIRED w_PREQUIRES_NEW w_PMANDATORY w_PNESTED w_PSUPPORTS w_PNOT_SUPPORTED w_PNEVER i), rv w_MWITHOUT_TRANSACTION] [(.int 1)])
          refine own_retN X19 hx Bd.notSynchronized (t := .boolean) Bd.returns (by simp) (hb hby at_138) (by decide) (by decide) ?_
          rw [eh19]
          exact ⟨rfl, M19⟩
        · refine own_st (fun _ k => XS.icmpYes X11.here hx rfl (pc0 := 58) (pc' := 69) rfl (hb hby at_58) rfl (XT.ii_ne_t c2) (by decide) (by decide) k) ?_
          show own_Go p e below _ T11 (mkF m 69 #[iv p1, iv p2, iv i, iv 1, rv (own_pick w_PREQUIRED w_PREQUIRES_NEW w_PMANDATORY w_PNESTED w_PSUPPORTS w_PNOT_SUPPORTED w_PNEVER i), .unset] [])
          refine own_st (fun _ k => XS.iloadN X11.here hx rfl (hb hby at_69) rfl k) ?_
          show own_Go p e below _ T11 (mkF m 70 #[iv p1, iv p2, iv i, iv 1, rv (own_pick w_PREQUIRED w_PREQUIRES_NEW w_PMANDATORY w_PNESTED w_PSUPPORTS w_PNOT_SUPPORTED w_PNEVER i), .unset] [(.int i)])
          refine own_st (fun _ k => XT.bipushV X11.here hx rfl (6 : Int32) (hb hby at_70) (by decide) k) ?_
          show own_Go p e below _ T11 (mkF m 72 #[iv p1, iv p2, iv i, iv 1, rv (own_pick w_PREQUIRED w_PREQUIRES_NEW w_PMANDATORY w_PNESTED w_PSUPPORTS w_PNOT_SUPPORTED w_PNEVER i), .unset] [(.int 6), (.int i)])
          by_cases c3 : i = (6 : Int32)
          · refine own_st (fun _ k => XS.icmpNo X11.here hx rfl (hb hby at_72) rfl (XT.ii_ne_f c3) k) ?_
            show own_Go p e below _ T11 (mkF m 75 #[iv p1, iv p2, iv i, iv 1, rv (own_pick w_PREQUIRED w_PREQUIRES_NEW w_PMANDATORY w_PNESTED w_PSUPPORTS w_PNOT_SUPPORTED w_PNEVER i), .unset] [])
            obtain ⟨T21, X21, e21, st21⟩ := getS2 X11 hx hZ hown (host := "") (Or.inl (hw _ (List.mem_of_getElem? (i := 38) rfl))) Via.refl eh11 S_MREFUSED (g := (mkF m 75 #[iv p1, iv p2, iv i, iv 1, rv (own_pick w_PREQUIRED w_PREQUIRES_NEW w_PMANDATORY w_PNESTED w_PSUPPORTS w_PNOT_SUPPORTED w_PNEVER i), .unset] [])) rfl (hb hby at_75)
            refine own_st st21 ?_
            show own_Go p e below _ T21 (mkF m 78 #[iv p1, iv p2, iv i, iv 1, rv (own_pick w_PREQUIRED w_PREQUIRES_NEW w_PMANDATORY w_PNESTED w_PSUPPORTS w_PNOT_SUPPORTED w_PNEVER i), .unset] [(.ref w_MREFUSED)])
            refine own_st (fun _ k => XS.astore X21.here hx rfl (hb hby at_78) rfl rfl (l' := #[iv p1, iv p2, iv i, iv 1, rv (own_pick w_PREQUIRED w_PREQUIRES_NEW w_PMANDATORY w_PNESTED w_PSUPPORTS w_PNOT_SUPPORTED w_PNEVER i), rv w_MREFUSED]) rfl k) ?_
            show own_Go p e below _ T21 (mkF m 80 #[iv p1, iv p2, iv i, iv 1, rv (own_pick w_PREQUIRED w_PREQUIRES_NEW w_PMANDATORY w_PNESTED w_PSUPPORTS w_PNOT_SUPPORTED w_PNEVER i), rv w_MREFUSED] [])
            refine own_st (fun _ k => XS.goto X21.here hx rfl (pc0 := 80) (pc' := 122) rfl (hb hby at_80) (by decide) (by decide) k) ?_
            show own_Go p e below _ T21 (mkF m 122 #[iv p1, iv p2, iv i, iv 1, rv (own_pick w_PREQUIRED w_PREQUIRES_NEW w_PMANDATORY w_PNESTED w_PSUPPORTS w_PNOT_SUPPORTED w_PNEVER i), rv w_MREFUSED] [])
            refine own_st (fun _ k => XS.aload X21.here hx rfl (hb hby at_122) rfl rfl k) ?_
            show own_Go p e below _ T21 (mkF m 124 #[iv p1, iv p2, iv i, iv 1, rv (own_pick w_PREQUIRED w_PREQUIRES_NEW w_PMANDATORY w_PNESTED w_PSUPPORTS w_PNOT_SUPPORTED w_PNEVER i), rv w_MREFUSED] [(.ref (own_pick w_PREQUIRED w_PREQUIRES_NEW w_PMANDATORY w_PNESTED w_PSUPPORTS w_PNOT_SUPPORTED w_PNEVER i))])
            refine own_st (fun _ k => XS.iloadN X21.here hx rfl (hb hby at_124) rfl k) ?_
            show own_Go p e below _ T21 (mkF m 125 #[iv p1, iv p2, iv i, iv 1, rv (own_pick w_PREQUIRED w_PREQUIRES_NEW w_PMANDATORY w_PNESTED w_PSUPPORTS w_PNOT_SUPPORTED w_PNEVER i), rv w_MREFUSED] [(.int 1), (.ref (own_pick w_PREQUIRED w_PREQUIRES_NEW w_PMANDATORY w_PNESTED w_PSUPPORTS w_PNOT_SUPPORTED w_PNEVER i))])
            obtain ⟨cq22, kq22, q22a, q22b, q22c⟩ := isOf hZ e21 EE
            obtain ⟨_, _, ⟨T22, L22, k22, n22⟩, -, X22, ⟨Lc22, hQ22, l22, y22, z22⟩, st22⟩ := X21.virtualBack hx (y := (⟨"com/example/request_session_scope/requestsessionscope/Propagation", "mode", "(Z)Lcom/example/request_session_scope/requestsessionscope/Propagation$Mode;"⟩ : MethodName)) (z := (⟨"com/example/request_session_scope/requestsessionscope/Propagation", "mode", "(Z)Lcom/example/request_session_scope/requestsessionscope/Propagation$Mode;"⟩ : MethodName)) hown (mvT hZ (hw _ (List.mem_of_getElem? (i := 11) rfl))) (mvT hZ (hw _ (List.mem_of_getElem? (i := 12) rfl))) (notFace_of_selects (args := #[]) (mvT hZ (hw _ (List.mem_of_getElem? (i := 14) rfl)))) (mvT hZ (hw _ (List.mem_of_getElem? (i := 14) rfl))) (mvT hZ (hw _ (List.mem_of_getElem? (i := 13) rfl))) (by decide) (backOf (W := 0) (own_rm_mode l Z a0 hw [] (own_pick w_PREQUIRED w_PREQUIRES_NEW w_PMANDATORY w_PNESTED w_PSUPPORTS w_PNOT_SUPPORTED w_PNEVER i) (1 : Int32) (own_in w_MNEW_TRANSACTION w_MNESTED w_MWITHOUT_TRANSACTION w_MREFUSED w_MIN_CALLERS i) (own_out w_MNEW_TRANSACTION w_MNESTED w_MWITHOUT_TRANSACTION w_MREFUSED w_MIN_CALLERS i) h0 n0 Z0 FI FO) hZ (hw _ (List.mem_of_getElem? (i := 15) rfl)) (hw _ (List.mem_of_getElem? (i := 6) rfl)) (by decide) (by decide)) q22a q22c (g := (mkF m 125 #[iv p1, iv p2, iv i, iv 1, rv (own_pick w_PREQUIRED w_PREQUIRES_NEW w_PMANDATORY w_PNESTED w_PSUPPORTS w_PNOT_SUPPORTED w_PNEVER i), rv w_MREFUSED] [(.int 1), (.ref (own_pick w_PREQUIRED w_PREQUIRES_NEW w_PMANDATORY w_PNESTED w_PSUPPORTS w_PNOT_SUPPORTED w_PNEVER i))])) rfl (by rw [hml]; rfl) (Steps.refl _) (argsL := [(.int (1 : Int32))]) (rest := []) (lenOf own_pd1 rfl) rfl (by show 2 * 0 + _ ≤ _; exact Nat.le_of_eq rfl) (hb hby at_125) (fun _ _ => ⟨rfl, e21, (by decide : 0 + 0 ≤ _), (by decide : 0 + 0 ≤ _)⟩)
            dsimp only [Pt.U, Pt.locs, Pt.cells, Pt.slots] at X22 l22 y22 z22 st22 hQ22
            subst l22 y22 z22
            obtain ⟨rfl, N22, eh22⟩ := hQ22
            have M22 := Fr.app M11 N22
            refine own_tr st22 ?_
            show own_Go p e below _ T22 (mkF m 128 #[iv p1, iv p2, iv i, iv 1, rv (own_pick w_PREQUIRED w_PREQUIRES_NEW w_PMANDATORY w_PNESTED w_PSUPPORTS w_PNOT_SUPPORTED w_PNEVER i), rv w_MREFUSED] [(.ref (if (1 : Int32) = 0 then (own_out w_MNEW_TRANSACTION w_MNESTED w_MWITHOUT_TRANSACTION w_MREFUSED w_MIN_CALLERS i) else (own_in w_MNEW_TRANSACTION w_MNESTED w_MWITHOUT_TRANSACTION w_MREFUSED w_MIN_CALLERS i)))])
            refine own_st (fun _ k => XS.aload X22.here hx rfl (hb hby at_128) rfl rfl k) ?_
            show own_Go p e below _ T22 (mkF m 130 #[iv p1, iv p2, iv i, iv 1, rv (own_pick w_PREQUIRED w_PREQUIRES_NEW w_PMANDATORY w_PNESTED w_PSUPPORTS w_PNOT_SUPPORTED w_PNEVER i), rv w_MREFUSED] [(.ref w_MREFUSED), (.ref (if (1 : Int32) = 0 then (own_out w_MNEW_TRANSACTION w_MNESTED w_MWITHOUT_TRANSACTION w_MREFUSED w_MIN_CALLERS i) else (own_in w_MNEW_TRANSACTION w_MNESTED w_MWITHOUT_TRANSACTION w_MREFUSED w_MIN_CALLERS i)))])
            refine own_st (fun _ k => XT.acmpNo X22.here hx rfl (hb hby at_130) rfl rfl rfl (XT.aa_ne_f (by simp [own_in, own_out, c0, c1, c2, c3])) k) ?_
            show own_Go p e below _ T22 (mkF m 133 #[iv p1, iv p2, iv i, iv 1, rv (own_pick w_PREQUIRED w_PREQUIRES_NEW w_PMANDATORY w_PNESTED w_PSUPPORTS w_PNOT_SUPPORTED w_PNEVER i), rv w_MREFUSED] [])
            refine own_st (fun _ k => XT.iconstV X22.here hx rfl (1 : Int32) (hb hby at_133) (by decide) k) ?_
            show own_Go p e below _ T22 (mkF m 134 #[iv p1, iv p2, iv i, iv 1, rv (own_pick w_PREQUIRED w_PREQUIRES_NEW w_PMANDATORY w_PNESTED w_PSUPPORTS w_PNOT_SUPPORTED w_PNEVER i), rv w_MREFUSED] [(.int 1)])
            refine own_st (fun _ k => XS.goto X22.here hx rfl (pc0 := 134) (pc' := 138) rfl (hb hby at_134) (by decide) (by decide) k) ?_
            show own_Go p e below _ T22 (mkF m 138 #[iv p1, iv p2, iv i, iv 1, rv (own_pick w_PREQUIRED w_PREQUIRES_NEW w_PMANDATORY w_PNESTED w_PSUPPORTS w_PNOT_SUPPORTED w_PNEVER i), rv w_MREFUSED] [(.int 1)])
            refine own_retN X22 hx Bd.notSynchronized (t := .boolean) Bd.returns (by simp) (hb hby at_138) (by decide) (by decide) ?_
            rw [eh22]
            exact ⟨rfl, M22⟩
          · refine own_st (fun _ k => XS.icmpYes X11.here hx rfl (pc0 := 72) (pc' := 83) rfl (hb hby at_72) rfl (XT.ii_ne_t c3) (by decide) (by decide) k) ?_
            show own_Go p e below _ T11 (mkF m 83 #[iv p1, iv p2, iv i, iv 1, rv (own_pick w_PREQUIRED w_PREQUIRES_NEW w_PMANDATORY w_PNESTED w_PSUPPORTS w_PNOT_SUPPORTED w_PNEVER i), .unset] [])
            obtain ⟨T24, X24, e24, st24⟩ := getS2 X11 hx hZ hown (host := "") (Or.inl (hw _ (List.mem_of_getElem? (i := 8) rfl))) Via.refl eh11 S_MIN_CALLERS (g := (mkF m 83 #[iv p1, iv p2, iv i, iv 1, rv (own_pick w_PREQUIRED w_PREQUIRES_NEW w_PMANDATORY w_PNESTED w_PSUPPORTS w_PNOT_SUPPORTED w_PNEVER i), .unset] [])) rfl (hb hby at_83)
            refine own_st st24 ?_
            show own_Go p e below _ T24 (mkF m 86 #[iv p1, iv p2, iv i, iv 1, rv (own_pick w_PREQUIRED w_PREQUIRES_NEW w_PMANDATORY w_PNESTED w_PSUPPORTS w_PNOT_SUPPORTED w_PNEVER i), .unset] [(.ref w_MIN_CALLERS)])
            refine own_st (fun _ k => XS.astore X24.here hx rfl (hb hby at_86) rfl rfl (l' := #[iv p1, iv p2, iv i, iv 1, rv (own_pick w_PREQUIRED w_PREQUIRES_NEW w_PMANDATORY w_PNESTED w_PSUPPORTS w_PNOT_SUPPORTED w_PNEVER i), rv w_MIN_CALLERS]) rfl k) ?_
            show own_Go p e below _ T24 (mkF m 88 #[iv p1, iv p2, iv i, iv 1, rv (own_pick w_PREQUIRED w_PREQUIRES_NEW w_PMANDATORY w_PNESTED w_PSUPPORTS w_PNOT_SUPPORTED w_PNEVER i), rv w_MIN_CALLERS] [])
            refine own_st (fun _ k => XS.goto X24.here hx rfl (pc0 := 88) (pc' := 122) rfl (hb hby at_88) (by decide) (by decide) k) ?_
            show own_Go p e below _ T24 (mkF m 122 #[iv p1, iv p2, iv i, iv 1, rv (own_pick w_PREQUIRED w_PREQUIRES_NEW w_PMANDATORY w_PNESTED w_PSUPPORTS w_PNOT_SUPPORTED w_PNEVER i), rv w_MIN_CALLERS] [])
            refine own_st (fun _ k => XS.aload X24.here hx rfl (hb hby at_122) rfl rfl k) ?_
            show own_Go p e below _ T24 (mkF m 124 #[iv p1, iv p2, iv i, iv 1, rv (own_pick w_PREQUIRED w_PREQUIRES_NEW w_PMANDATORY w_PNESTED w_PSUPPORTS w_PNOT_SUPPORTED w_PNEVER i), rv w_MIN_CALLERS] [(.ref (own_pick w_PREQUIRED w_PREQUIRES_NEW w_PMANDATORY w_PNESTED w_PSUPPORTS w_PNOT_SUPPORTED w_PNEVER i))])
            refine own_st (fun _ k => XS.iloadN X24.here hx rfl (hb hby at_124) rfl k) ?_
            show own_Go p e below _ T24 (mkF m 125 #[iv p1, iv p2, iv i, iv 1, rv (own_pick w_PREQUIRED w_PREQUIRES_NEW w_PMANDATORY w_PNESTED w_PSUPPORTS w_PNOT_SUPPORTED w_PNEVER i), rv w_MIN_CALLERS] [(.int 1), (.ref (own_pick w_PREQUIRED w_PREQUIRES_NEW w_PMANDATORY w_PNESTED w_PSUPPORTS w_PNOT_SUPPORTED w_PNEVER i))])
            obtain ⟨cq25, kq25, q25a, q25b, q25c⟩ := isOf hZ e24 EE
            obtain ⟨_, _, ⟨T25, L25, k25, n25⟩, -, X25, ⟨Lc25, hQ25, l25, y25, z25⟩, st25⟩ := X24.virtualBack hx (y := (⟨"com/example/request_session_scope/requestsessionscope/Propagation", "mode", "(Z)Lcom/example/request_session_scope/requestsessionscope/Propagation$Mode;"⟩ : MethodName)) (z := (⟨"com/example/request_session_scope/requestsessionscope/Propagation", "mode", "(Z)Lcom/example/request_session_scope/requestsessionscope/Propagation$Mode;"⟩ : MethodName)) hown (mvT hZ (hw _ (List.mem_of_getElem? (i := 11) rfl))) (mvT hZ (hw _ (List.mem_of_getElem? (i := 12) rfl))) (notFace_of_selects (args := #[]) (mvT hZ (hw _ (List.mem_of_getElem? (i := 14) rfl)))) (mvT hZ (hw _ (List.mem_of_getElem? (i := 14) rfl))) (mvT hZ (hw _ (List.mem_of_getElem? (i := 13) rfl))) (by decide) (backOf (W := 0) (own_rm_mode l Z a0 hw [] (own_pick w_PREQUIRED w_PREQUIRES_NEW w_PMANDATORY w_PNESTED w_PSUPPORTS w_PNOT_SUPPORTED w_PNEVER i) (1 : Int32) (own_in w_MNEW_TRANSACTION w_MNESTED w_MWITHOUT_TRANSACTION w_MREFUSED w_MIN_CALLERS i) (own_out w_MNEW_TRANSACTION w_MNESTED w_MWITHOUT_TRANSACTION w_MREFUSED w_MIN_CALLERS i) h0 n0 Z0 FI FO) hZ (hw _ (List.mem_of_getElem? (i := 15) rfl)) (hw _ (List.mem_of_getElem? (i := 6) rfl)) (by decide) (by decide)) q25a q25c (g := (mkF m 125 #[iv p1, iv p2, iv i, iv 1, rv (own_pick w_PREQUIRED w_PREQUIRES_NEW w_PMANDATORY w_PNESTED w_PSUPPORTS w_PNOT_SUPPORTED w_PNEVER i), rv w_MIN_CALLERS] [(.int 1), (.ref (own_pick w_PREQUIRED w_PREQUIRES_NEW w_PMANDATORY w_PNESTED w_PSUPPORTS w_PNOT_SUPPORTED w_PNEVER i))])) rfl (by rw [hml]; rfl) (Steps.refl _) (argsL := [(.int (1 : Int32))]) (rest := []) (lenOf own_pd1 rfl) rfl (by show 2 * 0 + _ ≤ _; exact Nat.le_of_eq rfl) (hb hby at_125) (fun _ _ => ⟨rfl, e24, (by decide : 0 + 0 ≤ _), (by decide : 0 + 0 ≤ _)⟩)
            dsimp only [Pt.U, Pt.locs, Pt.cells, Pt.slots] at X25 l25 y25 z25 st25 hQ25
            subst l25 y25 z25
            obtain ⟨rfl, N25, eh25⟩ := hQ25
            have M25 := Fr.app M11 N25
            refine own_tr st25 ?_
            show own_Go p e below _ T25 (mkF m 128 #[iv p1, iv p2, iv i, iv 1, rv (own_pick w_PREQUIRED w_PREQUIRES_NEW w_PMANDATORY w_PNESTED w_PSUPPORTS w_PNOT_SUPPORTED w_PNEVER i), rv w_MIN_CALLERS] [(.ref (if (1 : Int32) = 0 then (own_out w_MNEW_TRANSACTION w_MNESTED w_MWITHOUT_TRANSACTION w_MREFUSED w_MIN_CALLERS i) else (own_in w_MNEW_TRANSACTION w_MNESTED w_MWITHOUT_TRANSACTION w_MREFUSED w_MIN_CALLERS i)))])
            refine own_st (fun _ k => XS.aload X25.here hx rfl (hb hby at_128) rfl rfl k) ?_
            show own_Go p e below _ T25 (mkF m 130 #[iv p1, iv p2, iv i, iv 1, rv (own_pick w_PREQUIRED w_PREQUIRES_NEW w_PMANDATORY w_PNESTED w_PSUPPORTS w_PNOT_SUPPORTED w_PNEVER i), rv w_MIN_CALLERS] [(.ref w_MIN_CALLERS), (.ref (if (1 : Int32) = 0 then (own_out w_MNEW_TRANSACTION w_MNESTED w_MWITHOUT_TRANSACTION w_MREFUSED w_MIN_CALLERS i) else (own_in w_MNEW_TRANSACTION w_MNESTED w_MWITHOUT_TRANSACTION w_MREFUSED w_MIN_CALLERS i)))])
            refine own_st (fun _ k => XT.acmpNo X25.here hx rfl (hb hby at_130) rfl rfl rfl (XT.aa_ne_f (by simp [own_in, own_out, c0, c1, c2, c3])) k) ?_
            show own_Go p e below _ T25 (mkF m 133 #[iv p1, iv p2, iv i, iv 1, rv (own_pick w_PREQUIRED w_PREQUIRES_NEW w_PMANDATORY w_PNESTED w_PSUPPORTS w_PNOT_SUPPORTED w_PNEVER i), rv w_MIN_CALLERS] [])
            refine own_st (fun _ k => XT.iconstV X25.here hx rfl (1 : Int32) (hb hby at_133) (by decide) k) ?_
            show own_Go p e below _ T25 (mkF m 134 #[iv p1, iv p2, iv i, iv 1, rv (own_pick w_PREQUIRED w_PREQUIRES_NEW w_PMANDATORY w_PNESTED w_PSUPPORTS w_PNOT_SUPPORTED w_PNEVER i), rv w_MIN_CALLERS] [(.int 1)])
            refine own_st (fun _ k => XS.goto X25.here hx rfl (pc0 := 134) (pc' := 138) rfl (hb hby at_134) (by decide) (by decide) k) ?_
            show own_Go p e below _ T25 (mkF m 138 #[iv p1, iv p2, iv i, iv 1, rv (own_pick w_PREQUIRED w_PREQUIRES_NEW w_PMANDATORY w_PNESTED w_PSUPPORTS w_PNOT_SUPPORTED w_PNEVER i), rv w_MIN_CALLERS] [(.int 1)])
            refine own_retN X25 hx Bd.notSynchronized (t := .boolean) Bd.returns (by simp) (hb hby at_138) (by decide) (by decide) ?_
            rw [eh25]
            exact ⟨rfl, M25⟩
set_option maxRecDepth 65536 in
set_option maxHeartbeats 40000000 in
theorem comes_1 {Post : Tables → Env → Array Value → State → Outcome → State → Prop} (hpost : ∀ tb e args s v u, (limb_1_1.after args s (.returned v) u = true ∧ limb_1_2.after args s (.returned v) u = true ∧ True) → FrameEnd s (.returned v) u (Jvm.fieldLocs frame_1_writes args s ++ Jvm.arrayLocs frame_1_arrays args s ++ Jvm.staticLocs frame_1_statics s) 0 0 → Post tb e args s (.returned v) u) :
    ArmFor flags0 classFile x code maxLocals ret World_1 tables_1 room_1 Calls_1 rest_1 Pre_1 Post := by
  intro l hfl _ _ p e ha hc hk s m args below hf hA hF happ hP
  obtain ⟨hcalls, hrest, hpre⟩ := hP
  obtain ⟨-, -, -, hnamed, -, -, -, hat⟩ := (Spec.applies_iff hf).mp happ
  obtain ⟨hg, hn⟩ := and_e (Cond.before_iff.mp (show (Jvm.Cond.and given_1 narrow_1).before args s = true from hpre))
  obtain ⟨gl0, gr0⟩ := and_e hg
  obtain ⟨gl1, gr1⟩ := and_e gr0
  obtain ⟨w0, w1, rfl⟩ : ∃ w0 w1 : Value, args = #[w0, w1] := by
    have hs : args.size = 2 := by simpa [Cond.value, given_1] using gl0
    obtain ⟨L⟩ := args
    match L, hs with
    | [w0, w1], _ => exact ⟨w0, w1, rfl⟩
  have hw := fun d (hd : d ∈ tables_1) => atoms_spec (ws := Jvm.Cond.code x code maxLocals ret :: tables_1) hat d (List.mem_cons_of_mem _ hd)
  obtain ⟨nl0, nr0⟩ := and_e hn
  obtain ⟨nl1, nr1⟩ := and_e nr0
  obtain ⟨nl2, nr2⟩ := and_e nr1
  obtain ⟨nl3, nr3⟩ := and_e nr2
  obtain ⟨nl4, nr4⟩ := and_e nr3
  obtain ⟨nl5, nr5⟩ := and_e nr4
  obtain ⟨nl6, nr6⟩ := and_e nr5
  obtain ⟨nl7, nr7⟩ := and_e nr6
  obtain ⟨nl8, nr8⟩ := and_e nr7
  obtain ⟨nl9, nr9⟩ := and_e nr8
  obtain ⟨nl10, nr10⟩ := and_e nr9
  obtain ⟨nl11, nr11⟩ := and_e nr10
  obtain ⟨nl12, nr12⟩ := and_e nr11
  obtain ⟨nl13, nr13⟩ := and_e nr12
  obtain ⟨nl14, nr14⟩ := and_e nr13
  obtain ⟨nl15, nr15⟩ := and_e nr14
  obtain ⟨nl16, nr16⟩ := and_e nr15
  obtain ⟨nl17, nr17⟩ := and_e nr16
  obtain ⟨nl18, nr18⟩ := and_e nr17
  obtain ⟨nl19, nr19⟩ := and_e nr18
  obtain ⟨nl20, nr20⟩ := and_e nr19
  obtain ⟨nl21, nr21⟩ := and_e nr20
  obtain ⟨nl22, nr22⟩ := and_e nr21
  obtain ⟨nl23, nr23⟩ := and_e nr22
  obtain ⟨nl24, nr24⟩ := and_e nr23
  have nn0 := nl0
  have nn1 := nl1
  have nn2 := nl2
  have nn3 := nl3
  have nn4 := nl4
  have nn5 := nl5
  have nn6 := nl6
  have nn7 := nl7
  have nn8 := nl8
  have nn9 := nl9
  have nn10 := nl10
  have nn11 := nl11
  have nn12 := nl12
  have nn13 := nl13
  have nn14 := nl14
  have nn15 := nl15
  have nn16 := nl16
  have nn17 := nl17
  have nn18 := nl18
  have nn19 := nl19
  have nn20 := nl20
  have nn21 := nl21
  have nn22 := nl22
  have nn23 := nl23
  have nn24 := nl24
  have nn25 := nr24
  have hfit : Fit s := fun {y c} hc i hi => by
    obtain ⟨ha, rfl⟩ := Array.getElem?_eq_some_iff.mp hc
    have q := List.all_eq_true.mp ((Array.all_eq_true_iff_forall_mem.mp hF) _ (Array.getElem_mem ha)) i (List.mem_range.mpr hi)
    simpa [Array.getElem?_eq_getElem hi] using q
  obtain ⟨i0, ei0⟩ := is_v gl1
  obtain rfl : w0 = (.int i0) := Option.some.inj ei0
  obtain ⟨i1, ei1⟩ := is_v gr1
  obtain rfl : w1 = (.int i1) := Option.some.inj ei1
  obtain ⟨w_PREQUIRED, ev_PREQUIRED⟩ := exa_v nn0
  have S_PREQUIRED : Sta s s.heap "com/example/request_session_scope/requestsessionscope/Propagation" "REQUIRED" "Lcom/example/request_session_scope/requestsessionscope/Propagation;" (.ref w_PREQUIRED) := Sta.start ev_PREQUIRED (Or.inr ⟨(hw _ (List.mem_of_getElem? (i := 6) rfl)), (hw _ (List.mem_of_getElem? (i := 7) rfl))⟩)
  have E_PREQUIRED : Exa s s.heap w_PREQUIRED "com/example/request_session_scope/requestsessionscope/Propagation" := Exa.start ev_PREQUIRED nn0
  obtain ⟨w_MIN_CALLERS, ev_MIN_CALLERS⟩ := exa_v nn1
  have S_MIN_CALLERS : Sta s s.heap "com/example/request_session_scope/requestsessionscope/Propagation$Mode" "IN_CALLERS" "Lcom/example/request_session_scope/requestsessionscope/Propagation$Mode;" (.ref w_MIN_CALLERS) := Sta.start ev_MIN_CALLERS (Or.inr ⟨(hw _ (List.mem_of_getElem? (i := 9) rfl)), (hw _ (List.mem_of_getElem? (i := 10) rfl))⟩)
  have E_MIN_CALLERS : Exa s s.heap w_MIN_CALLERS "com/example/request_session_scope/requestsessionscope/Propagation$Mode" := Exa.start ev_MIN_CALLERS nn1
  obtain ⟨w_PNESTED, ev_PNESTED⟩ := exa_v nn3
  have S_PNESTED : Sta s s.heap "com/example/request_session_scope/requestsessionscope/Propagation" "NESTED" "Lcom/example/request_session_scope/requestsessionscope/Propagation;" (.ref w_PNESTED) := Sta.start ev_PNESTED (Or.inr ⟨(hw _ (List.mem_of_getElem? (i := 6) rfl)), (hw _ (List.mem_of_getElem? (i := 19) rfl))⟩)
  have E_PNESTED : Exa s s.heap w_PNESTED "com/example/request_session_scope/requestsessionscope/Propagation" := Exa.start ev_PNESTED nn3
  obtain ⟨w_MNESTED, ev_MNESTED⟩ := exa_v nn4
  have S_MNESTED : Sta s s.heap "com/example/request_session_scope/requestsessionscope/Propagation$Mode" "NESTED" "Lcom/example/request_session_scope/requestsessionscope/Propagation$Mode;" (.ref w_MNESTED) := Sta.start ev_MNESTED (Or.inr ⟨(hw _ (List.mem_of_getElem? (i := 9) rfl)), (hw _ (List.mem_of_getElem? (i := 21) rfl))⟩)
  have E_MNESTED : Exa s s.heap w_MNESTED "com/example/request_session_scope/requestsessionscope/Propagation$Mode" := Exa.start ev_MNESTED nn4
  obtain ⟨w_PREQUIRES_NEW, ev_PREQUIRES_NEW⟩ := exa_v nn6
  have S_PREQUIRES_NEW : Sta s s.heap "com/example/request_session_scope/requestsessionscope/Propagation" "REQUIRES_NEW" "Lcom/example/request_session_scope/requestsessionscope/Propagation;" (.ref w_PREQUIRES_NEW) := Sta.start ev_PREQUIRES_NEW (Or.inr ⟨(hw _ (List.mem_of_getElem? (i := 6) rfl)), (hw _ (List.mem_of_getElem? (i := 23) rfl))⟩)
  have E_PREQUIRES_NEW : Exa s s.heap w_PREQUIRES_NEW "com/example/request_session_scope/requestsessionscope/Propagation" := Exa.start ev_PREQUIRES_NEW nn6
  obtain ⟨w_MNEW_TRANSACTION, ev_MNEW_TRANSACTION⟩ := exa_v nn7
  have S_MNEW_TRANSACTION : Sta s s.heap "com/example/request_session_scope/requestsessionscope/Propagation$Mode" "NEW_TRANSACTION" "Lcom/example/request_session_scope/requestsessionscope/Propagation$Mode;" (.ref w_MNEW_TRANSACTION) := Sta.start ev_MNEW_TRANSACTION (Or.inr ⟨(hw _ (List.mem_of_getElem? (i := 9) rfl)), (hw _ (List.mem_of_getElem? (i := 25) rfl))⟩)
  have E_MNEW_TRANSACTION : Exa s s.heap w_MNEW_TRANSACTION "com/example/request_session_scope/requestsessionscope/Propagation$Mode" := Exa.start ev_MNEW_TRANSACTION nn7
  obtain ⟨w_PSUPPORTS, ev_PSUPPORTS⟩ := exa_v nn9
  have S_PSUPPORTS : Sta s s.heap "com/example/request_session_scope/requestsessionscope/Propagation" "SUPPORTS" "Lcom/example/request_session_scope/requestsessionscope/Propagation;" (.ref w_PSUPPORTS) := Sta.start ev_PSUPPORTS (Or.inr ⟨(hw _ (List.mem_of_getElem? (i := 6) rfl)), (hw _ (List.mem_of_getElem? (i := 29) rfl))⟩)
  have E_PSUPPORTS : Exa s s.heap w_PSUPPORTS "com/example/request_session_scope/requestsessionscope/Propagation" := Exa.start ev_PSUPPORTS nn9
  obtain ⟨w_PNEVER, ev_PNEVER⟩ := exa_v nn12
  have S_PNEVER : Sta s s.heap "com/example/request_session_scope/requestsessionscope/Propagation" "NEVER" "Lcom/example/request_session_scope/requestsessionscope/Propagation;" (.ref w_PNEVER) := Sta.start ev_PNEVER (Or.inr ⟨(hw _ (List.mem_of_getElem? (i := 6) rfl)), (hw _ (List.mem_of_getElem? (i := 31) rfl))⟩)
  have E_PNEVER : Exa s s.heap w_PNEVER "com/example/request_session_scope/requestsessionscope/Propagation" := Exa.start ev_PNEVER nn12
  obtain ⟨w_PNOT_SUPPORTED, ev_PNOT_SUPPORTED⟩ := exa_v nn15
  have S_PNOT_SUPPORTED : Sta s s.heap "com/example/request_session_scope/requestsessionscope/Propagation" "NOT_SUPPORTED" "Lcom/example/request_session_scope/requestsessionscope/Propagation;" (.ref w_PNOT_SUPPORTED) := Sta.start ev_PNOT_SUPPORTED (Or.inr ⟨(hw _ (List.mem_of_getElem? (i := 6) rfl)), (hw _ (List.mem_of_getElem? (i := 33) rfl))⟩)
  have E_PNOT_SUPPORTED : Exa s s.heap w_PNOT_SUPPORTED "com/example/request_session_scope/requestsessionscope/Propagation" := Exa.start ev_PNOT_SUPPORTED nn15
  obtain ⟨w_MWITHOUT_TRANSACTION, ev_MWITHOUT_TRANSACTION⟩ := exa_v nn16
  have S_MWITHOUT_TRANSACTION : Sta s s.heap "com/example/request_session_scope/requestsessionscope/Propagation$Mode" "WITHOUT_TRANSACTION" "Lcom/example/request_session_scope/requestsessionscope/Propagation$Mode;" (.ref w_MWITHOUT_TRANSACTION) := Sta.start ev_MWITHOUT_TRANSACTION (Or.inr ⟨(hw _ (List.mem_of_getElem? (i := 9) rfl)), (hw _ (List.mem_of_getElem? (i := 35) rfl))⟩)
  have E_MWITHOUT_TRANSACTION : Exa s s.heap w_MWITHOUT_TRANSACTION "com/example/request_session_scope/requestsessionscope/Propagation$Mode" := Exa.start ev_MWITHOUT_TRANSACTION nn16
  obtain ⟨w_PMANDATORY, ev_PMANDATORY⟩ := exa_v nn20
  have S_PMANDATORY : Sta s s.heap "com/example/request_session_scope/requestsessionscope/Propagation" "MANDATORY" "Lcom/example/request_session_scope/requestsessionscope/Propagation;" (.ref w_PMANDATORY) := Sta.start ev_PMANDATORY (Or.inr ⟨(hw _ (List.mem_of_getElem? (i := 6) rfl)), (hw _ (List.mem_of_getElem? (i := 37) rfl))⟩)
  have E_PMANDATORY : Exa s s.heap w_PMANDATORY "com/example/request_session_scope/requestsessionscope/Propagation" := Exa.start ev_PMANDATORY nn20
  obtain ⟨w_MREFUSED, ev_MREFUSED⟩ := exa_v nn21
  have S_MREFUSED : Sta s s.heap "com/example/request_session_scope/requestsessionscope/Propagation$Mode" "REFUSED" "Lcom/example/request_session_scope/requestsessionscope/Propagation$Mode;" (.ref w_MREFUSED) := Sta.start ev_MREFUSED (Or.inr ⟨(hw _ (List.mem_of_getElem? (i := 9) rfl)), (hw _ (List.mem_of_getElem? (i := 39) rfl))⟩)
  have E_MREFUSED : Exa s s.heap w_MREFUSED "com/example/request_session_scope/requestsessionscope/Propagation$Mode" := Exa.start ev_MREFUSED nn21
  have F_inTransaction_PREQUIRED : Fld s s.heap w_PREQUIRED "com/example/request_session_scope/requestsessionscope/Propagation" "inTransaction" "Lcom/example/request_session_scope/requestsessionscope/Propagation$Mode;" (.ref w_MIN_CALLERS) := Fld.start ((fld_at ev_PREQUIRED).symm.trans (own_eq_ref ev_MIN_CALLERS nn2))
  have F_inTransaction_PNESTED : Fld s s.heap w_PNESTED "com/example/request_session_scope/requestsessionscope/Propagation" "inTransaction" "Lcom/example/request_session_scope/requestsessionscope/Propagation$Mode;" (.ref w_MNESTED) := Fld.start ((fld_at ev_PNESTED).symm.trans (own_eq_ref ev_MNESTED nn5))
  have F_outsideTransaction_PREQUIRES_NEW : Fld s s.heap w_PREQUIRES_NEW "com/example/request_session_scope/requestsessionscope/Propagation" "outsideTransaction" "Lcom/example/request_session_scope/requestsessionscope/Propagation$Mode;" (.ref w_MNEW_TRANSACTION) := Fld.start ((fld_at ev_PREQUIRES_NEW).symm.trans (own_eq_ref ev_MNEW_TRANSACTION nn8))
  have F_outsideTransaction_PSUPPORTS : Fld s s.heap w_PSUPPORTS "com/example/request_session_scope/requestsessionscope/Propagation" "outsideTransaction" "Lcom/example/request_session_scope/requestsessionscope/Propagation$Mode;" (.ref w_MIN_CALLERS) := Fld.start ((fld_at ev_PSUPPORTS).symm.trans (own_eq_ref ev_MIN_CALLERS nn10))
  have F_inTransaction_PSUPPORTS : Fld s s.heap w_PSUPPORTS "com/example/request_session_scope/requestsessionscope/Propagation" "inTransaction" "Lcom/example/request_session_scope/requestsessionscope/Propagation$Mode;" (.ref w_MIN_CALLERS) := Fld.start ((fld_at ev_PSUPPORTS).symm.trans (own_eq_ref ev_MIN_CALLERS nn11))
  have F_outsideTransaction_PNEVER : Fld s s.heap w_PNEVER "com/example/request_session_scope/requestsessionscope/Propagation" "outsideTransaction" "Lcom/example/request_session_scope/requestsessionscope/Propagation$Mode;" (.ref w_MIN_CALLERS) := Fld.start ((fld_at ev_PNEVER).symm.trans (own_eq_ref ev_MIN_CALLERS nn13))
  have F_inTransaction_PREQUIRES_NEW : Fld s s.heap w_PREQUIRES_NEW "com/example/request_session_scope/requestsessionscope/Propagation" "inTransaction" "Lcom/example/request_session_scope/requestsessionscope/Propagation$Mode;" (.ref w_MNEW_TRANSACTION) := Fld.start ((fld_at ev_PREQUIRES_NEW).symm.trans (own_eq_ref ev_MNEW_TRANSACTION nn14))
  have F_inTransaction_PNOT_SUPPORTED : Fld s s.heap w_PNOT_SUPPORTED "com/example/request_session_scope/requestsessionscope/Propagation" "inTransaction" "Lcom/example/request_session_scope/requestsessionscope/Propagation$Mode;" (.ref w_MWITHOUT_TRANSACTION) := Fld.start ((fld_at ev_PNOT_SUPPORTED).symm.trans (own_eq_ref ev_MWITHOUT_TRANSACTION nn17))
  have F_outsideTransaction_PREQUIRED : Fld s s.heap w_PREQUIRED "com/example/request_session_scope/requestsessionscope/Propagation" "outsideTransaction" "Lcom/example/request_session_scope/requestsessionscope/Propagation$Mode;" (.ref w_MNEW_TRANSACTION) := Fld.start ((fld_at ev_PREQUIRED).symm.trans (own_eq_ref ev_MNEW_TRANSACTION nn18))
  have F_outsideTransaction_PNOT_SUPPORTED : Fld s s.heap w_PNOT_SUPPORTED "com/example/request_session_scope/requestsessionscope/Propagation" "outsideTransaction" "Lcom/example/request_session_scope/requestsessionscope/Propagation$Mode;" (.ref w_MIN_CALLERS) := Fld.start ((fld_at ev_PNOT_SUPPORTED).symm.trans (own_eq_ref ev_MIN_CALLERS nn19))
  have F_outsideTransaction_PMANDATORY : Fld s s.heap w_PMANDATORY "com/example/request_session_scope/requestsessionscope/Propagation" "outsideTransaction" "Lcom/example/request_session_scope/requestsessionscope/Propagation$Mode;" (.ref w_MREFUSED) := Fld.start ((fld_at ev_PMANDATORY).symm.trans (own_eq_ref ev_MREFUSED nn22))
  have F_outsideTransaction_PNESTED : Fld s s.heap w_PNESTED "com/example/request_session_scope/requestsessionscope/Propagation" "outsideTransaction" "Lcom/example/request_session_scope/requestsessionscope/Propagation$Mode;" (.ref w_MNEW_TRANSACTION) := Fld.start ((fld_at ev_PNESTED).symm.trans (own_eq_ref ev_MNEW_TRANSACTION nn23))
  have F_inTransaction_PNEVER : Fld s s.heap w_PNEVER "com/example/request_session_scope/requestsessionscope/Propagation" "inTransaction" "Lcom/example/request_session_scope/requestsessionscope/Propagation$Mode;" (.ref w_MREFUSED) := Fld.start ((fld_at ev_PNEVER).symm.trans (own_eq_ref ev_MREFUSED nn24))
  have F_inTransaction_PMANDATORY : Fld s s.heap w_PMANDATORY "com/example/request_session_scope/requestsessionscope/Propagation" "inTransaction" "Lcom/example/request_session_scope/requestsessionscope/Propagation$Mode;" (.ref w_MIN_CALLERS) := Fld.start ((fld_at ev_PMANDATORY).symm.trans (own_eq_ref ev_MIN_CALLERS nn25))
  obtain ⟨n, o, h1, h2, h3, _, L, rfl, ⟨rfl, N⟩, hq⟩ := own_rm_law l s _ hw tables_1 i0 i1 w_PREQUIRED w_PREQUIRES_NEW w_PMANDATORY w_PNESTED w_PSUPPORTS w_PNOT_SUPPORTED w_PNEVER w_MNEW_TRANSACTION w_MNESTED w_MWITHOUT_TRANSACTION w_MREFUSED w_MIN_CALLERS s.heap s.heap.size (Nat.le_refl _) S_PREQUIRED S_PREQUIRES_NEW S_PMANDATORY S_PNESTED S_PSUPPORTS S_PNOT_SUPPORTED S_PNEVER S_MNEW_TRANSACTION S_MNESTED S_MWITHOUT_TRANSACTION S_MREFUSED S_MIN_CALLERS E_PREQUIRED E_PREQUIRES_NEW E_PMANDATORY E_PNESTED E_PSUPPORTS E_PNOT_SUPPORTED E_PNEVER F_inTransaction_PREQUIRED F_inTransaction_PREQUIRES_NEW F_inTransaction_PMANDATORY F_inTransaction_PNESTED F_inTransaction_PSUPPORTS F_inTransaction_PNOT_SUPPORTED F_inTransaction_PNEVER F_outsideTransaction_PREQUIRED F_outsideTransaction_PREQUIRES_NEW F_outsideTransaction_PMANDATORY F_outsideTransaction_PNESTED F_outsideTransaction_PSUPPORTS F_outsideTransaction_PNOT_SUPPORTED F_outsideTransaction_PNEVER p e ha hc hk s m _ below hf ((Spec.applies_iff_loose hf).mp happ).1 ⟨rfl, State.Warmed39.refl s, rfl⟩ trivial
  refine ⟨n, _, h1, h2, h3, hpost _ _ _ _ _ _ ⟨Cond.after_iff.mpr rfl, Cond.after_iff.mpr (eq_i res_at (Term.int_eval (1)) rfl), trivial⟩ ⟨hq.1, hq.2.1, (hq.2.2.sift fun y hy => Or.inr (N y hy)).mono (by decide) (by decide)⟩⟩
theorem main_1_1 : Claimed_1_1 := comes_1 fun _ _ _ _ _ _ h hF => ⟨h.1, hF⟩
theorem main_1_2 : Claimed_1_2 := comes_1 fun _ _ _ _ _ _ h hF => ⟨h.2.1, hF⟩
end Jvm.Pilot.@@N@@
namespace Jvm.Pilot.@@N@@
open Jvm Jvm.ClassFile Sem Op Lib Jvm.Free Jvm.Stand Jvm.Pilot.@@N@@.Jvm.D
/-! MADE BY PROGRAM (witnessworld.py) out of the Statement's table words and the real class files: 13 classes; the members and pool entries that the words name. The judged class is class 1, her method 2. -/
namespace start1
open Jvm.ClassFile
def u (s : String) : CpInfo := .utf8 (stringToUtf16 s)
/-- a pool by its gaps: so many unusable entries, then the entry; so many at the end -/
def gap : Nat → List CpInfo → List CpInfo
  | 0, r => r
  | n + 1, r => .unusable :: gap n r
def poolList (es : List (Nat × CpInfo)) (last : Nat) : List CpInfo := es.foldr (fun e r => gap e.1 (e.2 :: r)) (gap last [])
def pool (es : List (Nat × CpInfo)) (last : Nat) : Array CpInfo := ⟨poolList es last⟩
def fileOf (pool : Array CpInfo) (this : Nat) (attrs : Array Attribute := #[]) (ms : Array MethodInfo := #[]) (fl : Nat := 33) (sup : Nat := 0) (ifs : Array Nat := #[]) (fds : Array FieldInfo := #[]) : ClassFile where
  minorVersion := 0
  majorVersion := 65
  constantPool := pool
  accessFlags := fl
  thisClass := this
  superClass := sup
  interfaces := ifs
  fields := fds
  methods := ms
  attributes := attrs
def plain (name : String) (sup : Option ClassId) : Class where
  name := name
  kind := .ordinary
  loader := none
  accessFlags := 33
  super := sup
  interfaces := #[]
  cf := none
  fields := #[]
  methods := #[]
  instanceTypes := #[]
  staticTypes := #[]
  resolved := #[]
  callSites := []
  init := .initialized
  statics := none
  mirror := none

def pool0 : Array CpInfo := pool [(5, u "<init>"), (0, u "()V"), (1, .class_ 10), (1, u "java/lang/Object")] 113

def k0m0 : Method := { name := "<init>", desc := "()V", sig := { parameters := [], returnType := none }, accessFlags := 1, code := none }
/-- java/lang/Object -/
def k0 : Class := { plain "java/lang/Object" none with
  accessFlags := 33
  interfaces := #[]
  cf := some (fileOf pool0 8 #[] #[{ accessFlags := 1, nameIndex := 5, descriptorIndex := 6, attributes := #[] }] 33 0 #[] #[])
  fields := #[]
  methods := #[k0m0]
  instanceTypes := #[]
  staticTypes := #[]
  resolved := Array.replicate 124 none
  statics := none }

def pool1 : Array CpInfo := pool [(2, .class_ 4), (1, u "java/lang/Object"), (0, u "<init>"), (0, u "()V"), (0, .fieldref 8 9), (0, .class_ 10), (0, .nameAndType 11 12), (0, u "com/example/request_session_scope/requestsessionscope/Propagation"), (0, u "REQUIRED"), (0, u "Lcom/example/request_session_scope/requestsessionscope/Propagation;"), (0, .fieldref 8 14), (0, .nameAndType 15 12), (0, u "REQUIRES_NEW"), (0, .fieldref 8 17), (0, .nameAndType 18 12), (0, u "MANDATORY"), (0, .fieldref 8 20), (0, .nameAndType 21 12), (0, u "NESTED"), (0, .fieldref 8 23), (0, .nameAndType 24 12), (0, u "SUPPORTS"), (0, .fieldref 8 26), (0, .nameAndType 27 12), (0, u "NOT_SUPPORTED"), (0, .fieldref 8 29), (0, .nameAndType 30 12), (0, u "NEVER"), (0, .integer 2147483647), (0, .methodref 33 34), (0, .class_ 35), (0, .nameAndType 36 37), (0, u "com/example/request_session_scope/requestsessionscope/PropagationModePinLaw"), (0, u "pick"), (0, u "(I)Lcom/example/request_session_scope/requestsessionscope/Propagation;"), (0, .fieldref 39 40), (0, .class_ 41), (0, .nameAndType 42 43), (0, u "com/example/request_session_scope/requestsessionscope/Propagation$Mode"), (0, u "NEW_TRANSACTION"), (0, u "Lcom/example/request_session_scope/requestsessionscope/Propagation$Mode;"), (0, .fieldref 39 45), (0, .nameAndType 21 43), (0, .fieldref 39 47), (0, .nameAndType 48 43), (0, u "WITHOUT_TRANSACTION"), (0, .fieldref 39 50), (0, .nameAndType 51 43), (0, u "REFUSED"), (0, .fieldref 39 53), (0, .nameAndType 54 43), (0, u "IN_CALLERS"), (0, .methodref 8 56), (0, .nameAndType 57 58), (0, u "mode"), (0, u "(Z)Lcom/example/request_session_scope/requestsessionscope/Propagation$Mode;"), (3, u "law"), (0, u "(II)Z")] 4

def k1m0 : Method := { name := "<init>", desc := "()V", sig := { parameters := [], returnType := none }, accessFlags := 1, code := none }
def k1c1 : Code := { maxStack := 2, maxLocals := 1, code := method_2_code, exceptionTable := #[], attributes := #[] }
def k1m1 : Method := { name := "pick", desc := "(I)Lcom/example/request_session_scope/requestsessionscope/Propagation;", sig := { parameters := [.int], returnType := some (.object "com/example/request_session_scope/requestsessionscope/Propagation") }, accessFlags := 10, code := some k1c1 }
def k1c2 : Code := { maxStack := 2, maxLocals := 6, code := code, exceptionTable := #[], attributes := #[] }
def k1m2 : Method := { name := "law", desc := "(II)Z", sig := { parameters := [.int, .int], returnType := some .boolean }, accessFlags := 9, code := some k1c2 }
/-- com/example/request_session_scope/requestsessionscope/PropagationModePinLaw -/
def k1 : Class := { plain "com/example/request_session_scope/requestsessionscope/PropagationModePinLaw" (some 0) with
  accessFlags := 49
  interfaces := #[]
  cf := some (fileOf pool1 33 #[] #[{ accessFlags := 1, nameIndex := 5, descriptorIndex := 6, attributes := #[] }, { accessFlags := 10, nameIndex := 36, descriptorIndex := 37, attributes := #[] }, { accessFlags := 9, nameIndex := 62, descriptorIndex := 63, attributes := #[] }] 49 2 #[] #[])
  fields := #[]
  methods := #[k1m0, k1m1, k1m2]
  instanceTypes := #[]
  staticTypes := #[]
  resolved := Array.replicate 68 none
  statics := none }

def pool2 : Array CpInfo := pool [(1, .class_ 2), (0, u "java/lang/constant/Constable"), (0, .class_ 4), (0, u "java/lang/Object")] 6

/-- java/lang/constant/Constable -/
def k2 : Class := { plain "java/lang/constant/Constable" (some 0) with
  accessFlags := 1537
  interfaces := #[]
  cf := some (fileOf pool2 1 #[] #[] 1537 3 #[] #[])
  fields := #[]
  methods := #[]
  instanceTypes := #[]
  staticTypes := #[]
  resolved := Array.replicate 11 none
  statics := none }

def pool3 : Array CpInfo := pool [(1, .class_ 2), (0, u "java/lang/Comparable"), (0, .class_ 4), (0, u "java/lang/Object")] 7

/-- java/lang/Comparable -/
def k3 : Class := { plain "java/lang/Comparable" (some 0) with
  accessFlags := 1537
  interfaces := #[]
  cf := some (fileOf pool3 1 #[] #[] 1537 3 #[] #[])
  fields := #[]
  methods := #[]
  instanceTypes := #[]
  staticTypes := #[]
  resolved := Array.replicate 12 none
  statics := none }

def pool4 : Array CpInfo := pool [(1, .class_ 2), (0, u "java/io/Serializable"), (0, .class_ 4), (0, u "java/lang/Object")] 2

/-- java/io/Serializable -/
def k4 : Class := { plain "java/io/Serializable" (some 0) with
  accessFlags := 1537
  interfaces := #[]
  cf := some (fileOf pool4 1 #[] #[] 1537 3 #[] #[])
  fields := #[]
  methods := #[]
  instanceTypes := #[]
  staticTypes := #[]
  resolved := Array.replicate 7 none
  statics := none }

def pool5 : Array CpInfo := pool [(2, .class_ 4), (1, u "java/lang/Enum"), (0, u "name"), (0, u "Ljava/lang/String;"), (2, u "ordinal"), (0, u "I"), (1, .class_ 14), (1, u "java/lang/Object"), (4, u "hash"), (86, .class_ 108), (1, u "java/lang/Enum$EnumDesc"), (2, .class_ 112), (0, u "java/lang/constant/Constable"), (0, .class_ 114), (0, u "java/lang/Comparable"), (0, .class_ 116), (0, u "java/io/Serializable")] 87

/-- java/lang/Enum -/
def k5 : Class := { plain "java/lang/Enum" (some 0) with
  accessFlags := 1057
  interfaces := #[2, 3, 4]
  cf := some (fileOf pool5 2 #[.nestMembers #[106]] #[] 1057 12 #[111, 113, 115] #[{ accessFlags := 18, nameIndex := 5, descriptorIndex := 6, attributes := #[] }, { accessFlags := 18, nameIndex := 9, descriptorIndex := 10, attributes := #[] }, { accessFlags := 2, nameIndex := 19, descriptorIndex := 10, attributes := #[] }])
  fields := #[{ name := "name", type := (.object "java/lang/String"), accessFlags := 18, slot := 0, constantValue := 0 }, { name := "ordinal", type := .int, accessFlags := 18, slot := 1, constantValue := 0 }, { name := "hash", type := .int, accessFlags := 2, slot := 2, constantValue := 0 }]
  methods := #[]
  instanceTypes := #[(.object "java/lang/String"), .int, .int]
  staticTypes := #[]
  resolved := Array.replicate 204 none
  statics := none }

def pool6 : Array CpInfo := pool [(1, .class_ 2), (0, u "com/example/request_session_scope/requestsessionscope/Propagation"), (2, u "REQUIRED"), (0, u "Lcom/example/request_session_scope/requestsessionscope/Propagation;"), (2, u "REQUIRES_NEW"), (2, u "MANDATORY"), (2, u "NESTED"), (2, u "SUPPORTS"), (2, u "NOT_SUPPORTED"), (2, u "NEVER"), (2, u "$VALUES"), (0, u "[Lcom/example/request_session_scope/requestsessionscope/Propagation;"), (6, .class_ 37), (1, u "java/lang/Enum"), (6, .fieldref 1 45), (0, .nameAndType 46 47), (0, u "inTransaction"), (0, u "Lcom/example/request_session_scope/requestsessionscope/Propagation$Mode;"), (0, .fieldref 1 49), (0, .nameAndType 50 47), (0, u "outsideTransaction"), (2, .class_ 55), (1, u "com/example/request_session_scope/requestsessionscope/Propagation$Mode"), (32, u "mode"), (0, u "(Z)Lcom/example/request_session_scope/requestsessionscope/Propagation$Mode;")] 9

def k6c0 : Code := { maxStack := 1, maxLocals := 2, code := prog_14_method_4_code, exceptionTable := #[], attributes := #[] }
def k6m0 : Method := { name := "mode", desc := "(Z)Lcom/example/request_session_scope/requestsessionscope/Propagation$Mode;", sig := { parameters := [.boolean], returnType := some (.object "com/example/request_session_scope/requestsessionscope/Propagation$Mode") }, accessFlags := 0, code := some k6c0 }
/-- com/example/request_session_scope/requestsessionscope/Propagation -/
def k6 : Class := { plain "com/example/request_session_scope/requestsessionscope/Propagation" (some 5) with
  accessFlags := 16433
  interfaces := #[]
  cf := some (fileOf pool6 1 #[.nestMembers #[53]] #[{ accessFlags := 0, nameIndex := 88, descriptorIndex := 89, attributes := #[] }] 16433 35 #[] #[{ accessFlags := 16409, nameIndex := 5, descriptorIndex := 6, attributes := #[] }, { accessFlags := 16409, nameIndex := 9, descriptorIndex := 6, attributes := #[] }, { accessFlags := 16409, nameIndex := 12, descriptorIndex := 6, attributes := #[] }, { accessFlags := 16409, nameIndex := 15, descriptorIndex := 6, attributes := #[] }, { accessFlags := 16409, nameIndex := 18, descriptorIndex := 6, attributes := #[] }, { accessFlags := 16409, nameIndex := 21, descriptorIndex := 6, attributes := #[] }, { accessFlags := 16409, nameIndex := 24, descriptorIndex := 6, attributes := #[] }, { accessFlags := 18, nameIndex := 46, descriptorIndex := 47, attributes := #[] }, { accessFlags := 18, nameIndex := 50, descriptorIndex := 47, attributes := #[] }, { accessFlags := 4122, nameIndex := 27, descriptorIndex := 28, attributes := #[] }])
  fields := #[{ name := "REQUIRED", type := (.object "com/example/request_session_scope/requestsessionscope/Propagation"), accessFlags := 16409, slot := 0, constantValue := 0 }, { name := "REQUIRES_NEW", type := (.object "com/example/request_session_scope/requestsessionscope/Propagation"), accessFlags := 16409, slot := 1, constantValue := 0 }, { name := "MANDATORY", type := (.object "com/example/request_session_scope/requestsessionscope/Propagation"), accessFlags := 16409, slot := 2, constantValue := 0 }, { name := "NESTED", type := (.object "com/example/request_session_scope/requestsessionscope/Propagation"), accessFlags := 16409, slot := 3, constantValue := 0 }, { name := "SUPPORTS", type := (.object "com/example/request_session_scope/requestsessionscope/Propagation"), accessFlags := 16409, slot := 4, constantValue := 0 }, { name := "NOT_SUPPORTED", type := (.object "com/example/request_session_scope/requestsessionscope/Propagation"), accessFlags := 16409, slot := 5, constantValue := 0 }, { name := "NEVER", type := (.object "com/example/request_session_scope/requestsessionscope/Propagation"), accessFlags := 16409, slot := 6, constantValue := 0 }, { name := "inTransaction", type := (.object "com/example/request_session_scope/requestsessionscope/Propagation$Mode"), accessFlags := 18, slot := 3, constantValue := 0 }, { name := "outsideTransaction", type := (.object "com/example/request_session_scope/requestsessionscope/Propagation$Mode"), accessFlags := 18, slot := 4, constantValue := 0 }, { name := "$VALUES", type := (.array (.object "com/example/request_session_scope/requestsessionscope/Propagation")), accessFlags := 4122, slot := 7, constantValue := 0 }]
  methods := #[k6m0]
  instanceTypes := #[(.object "java/lang/String"), .int, .int, (.object "com/example/request_session_scope/requestsessionscope/Propagation$Mode"), (.object "com/example/request_session_scope/requestsessionscope/Propagation$Mode")]
  staticTypes := #[(.object "com/example/request_session_scope/requestsessionscope/Propagation"), (.object "com/example/request_session_scope/requestsessionscope/Propagation"), (.object "com/example/request_session_scope/requestsessionscope/Propagation"), (.object "com/example/request_session_scope/requestsessionscope/Propagation"), (.object "com/example/request_session_scope/requestsessionscope/Propagation"), (.object "com/example/request_session_scope/requestsessionscope/Propagation"), (.object "com/example/request_session_scope/requestsessionscope/Propagation"), (.array (.object "com/example/request_session_scope/requestsessionscope/Propagation"))]
  resolved := Array.replicate 99 none
  statics := some 0 }

def pool7 : Array CpInfo := pool [(1, .class_ 2), (0, u "com/example/request_session_scope/requestsessionscope/Propagation$Mode"), (2, u "IN_CALLERS"), (0, u "Lcom/example/request_session_scope/requestsessionscope/Propagation$Mode;"), (2, u "NEW_TRANSACTION"), (2, u "NESTED"), (2, u "WITHOUT_TRANSACTION"), (2, u "REFUSED"), (2, u "$VALUES"), (0, u "[Lcom/example/request_session_scope/requestsessionscope/Propagation$Mode;"), (6, .class_ 31), (1, u "java/lang/Enum"), (28, .class_ 61), (0, u "com/example/request_session_scope/requestsessionscope/Propagation")] 2

/-- com/example/request_session_scope/requestsessionscope/Propagation$Mode -/
def k7 : Class := { plain "com/example/request_session_scope/requestsessionscope/Propagation$Mode" (some 5) with
  accessFlags := 16432
  interfaces := #[]
  cf := some (fileOf pool7 1 #[.nestHost 60] #[] 16432 29 #[] #[{ accessFlags := 16409, nameIndex := 5, descriptorIndex := 6, attributes := #[] }, { accessFlags := 16409, nameIndex := 9, descriptorIndex := 6, attributes := #[] }, { accessFlags := 16409, nameIndex := 12, descriptorIndex := 6, attributes := #[] }, { accessFlags := 16409, nameIndex := 15, descriptorIndex := 6, attributes := #[] }, { accessFlags := 16409, nameIndex := 18, descriptorIndex := 6, attributes := #[] }, { accessFlags := 4122, nameIndex := 21, descriptorIndex := 22, attributes := #[] }])
  fields := #[{ name := "IN_CALLERS", type := (.object "com/example/request_session_scope/requestsessionscope/Propagation$Mode"), accessFlags := 16409, slot := 0, constantValue := 0 }, { name := "NEW_TRANSACTION", type := (.object "com/example/request_session_scope/requestsessionscope/Propagation$Mode"), accessFlags := 16409, slot := 1, constantValue := 0 }, { name := "NESTED", type := (.object "com/example/request_session_scope/requestsessionscope/Propagation$Mode"), accessFlags := 16409, slot := 2, constantValue := 0 }, { name := "WITHOUT_TRANSACTION", type := (.object "com/example/request_session_scope/requestsessionscope/Propagation$Mode"), accessFlags := 16409, slot := 3, constantValue := 0 }, { name := "REFUSED", type := (.object "com/example/request_session_scope/requestsessionscope/Propagation$Mode"), accessFlags := 16409, slot := 4, constantValue := 0 }, { name := "$VALUES", type := (.array (.object "com/example/request_session_scope/requestsessionscope/Propagation$Mode")), accessFlags := 4122, slot := 5, constantValue := 0 }]
  methods := #[]
  instanceTypes := #[(.object "java/lang/String"), .int, .int]
  staticTypes := #[(.object "com/example/request_session_scope/requestsessionscope/Propagation$Mode"), (.object "com/example/request_session_scope/requestsessionscope/Propagation$Mode"), (.object "com/example/request_session_scope/requestsessionscope/Propagation$Mode"), (.object "com/example/request_session_scope/requestsessionscope/Propagation$Mode"), (.object "com/example/request_session_scope/requestsessionscope/Propagation$Mode"), (.array (.object "com/example/request_session_scope/requestsessionscope/Propagation$Mode"))]
  resolved := Array.replicate 64 none
  statics := some 1 }

def pool8 : Array CpInfo := pool [(1, u "java/lang/Cloneable"), (0, .class_ 1), (0, u "java/lang/Object"), (0, .class_ 3)] 3

/-- java/lang/Cloneable -/
def k8 : Class := { plain "java/lang/Cloneable" (some 0) with
  accessFlags := 1537
  interfaces := #[]
  cf := some (fileOf pool8 2 #[] #[] 1537 4 #[] #[])
  fields := #[]
  methods := #[]
  instanceTypes := #[]
  staticTypes := #[]
  resolved := Array.replicate 8 none
  statics := none }

/-- the primitive byte -/
def k9 : Class := { plain "byte" none with kind := .primitive 'B', accessFlags := 0x411 }
/-- [B -/
def k10 : Class := { plain "[B" (some 0) with kind := .array 9 .byte, interfaces := #[8, 4], accessFlags := 1041 }

/-- the primitive int -/
def k11 : Class := { plain "int" none with kind := .primitive 'I', accessFlags := 0x411 }
/-- [I -/
def k12 : Class := { plain "[I" (some 0) with kind := .array 11 .int, interfaces := #[8, 4], accessFlags := 1041 }

def heap : Heap := #[{ cls := 6, slots := #[.ref 7, .ref 8, .ref 9, .ref 10, .ref 11, .ref 12, .ref 13, .null], vm := .statics 6 },
  { cls := 7, slots := #[.ref 6, .ref 2, .ref 3, .ref 4, .ref 5, .null], vm := .statics 7 },
  { cls := 7, slots := #[.null, .int 0, .int 0], vm := .none },
  { cls := 7, slots := #[.null, .int 1, .int 0], vm := .none },
  { cls := 7, slots := #[.null, .int 2, .int 0], vm := .none },
  { cls := 7, slots := #[.null, .int 3, .int 0], vm := .none },
  { cls := 7, slots := #[.null, .int 4, .int 0], vm := .none },
  { cls := 6, slots := #[.null, .int 0, .int 0, .ref 6, .ref 2], vm := .none },
  { cls := 6, slots := #[.null, .int 1, .int 0, .ref 2, .ref 2], vm := .none },
  { cls := 6, slots := #[.null, .int 2, .int 0, .ref 6, .ref 5], vm := .none },
  { cls := 6, slots := #[.null, .int 3, .int 0, .ref 3, .ref 2], vm := .none },
  { cls := 6, slots := #[.null, .int 4, .int 0, .ref 6, .ref 6], vm := .none },
  { cls := 6, slots := #[.null, .int 5, .int 0, .ref 4, .ref 6], vm := .none },
  { cls := 6, slots := #[.null, .int 6, .int 0, .ref 5, .ref 6], vm := .none }]
def classes : Array Class := #[k0, k1, k2, k3, k4, k5, k6, k7, k8, k9, k10, k11, k12]
def interned : List (Array UInt16 × Addr) := []
def slotsUsed : Nat := 64
def theMethod : MethodId := ⟨1, 2⟩
def args0 : Array Value := #[.int 5, .int 3]
def aboutOver (below : List Frame) : State where
  vm := { classes := classes, interned := interned.toArray }
  heap := heap
  slotsUsed := slotsUsed
  threads := #[{ frames := .invoking theMethod args0 :: below }]
def below0 : List Frame := [.native { method := ⟨0, 0⟩, args := #[] }]
def about1 : State := aboutOver below0
def p0 : Program := .bare "" "" ""
def e0 : Env := launch0.env 0 0 0
theorem w_frames : about1.frames = Frame.invoking theMethod args0 :: below0 := rfl
set_option maxRecDepth 65536 in
theorem w_args : argsFit about1.vm theMethod args0 = true := by decide +kernel
set_option maxRecDepth 65536 in
theorem w_heap : heapFits about1 = true := by decide +kernel
set_option maxRecDepth 65536 in
theorem w_runnable : about1.curStatus? = some .runnable := by decide +kernel
set_option maxRecDepth 65536 in
theorem w_alone : about1.alone = true := by decide +kernel
set_option maxRecDepth 65536 in
theorem w_named : about1.methodNamed? x = some theMethod := by decide +kernel
set_option maxRecDepth 65536 in
theorem w_hears : about1.hears theMethod below0 = true := by decide +kernel
set_option maxRecDepth 65536 in
theorem w_ripe : about1.ripe theMethod args0 below0 = true := by decide +kernel
theorem w_running : about1.status = .running := rfl
set_option maxRecDepth 65536 in
theorem w_room : about1.hasRoom e0.platform room_1 = true :=
  launch0.hasRoom_least _ room_1 (by decide +kernel) (by decide +kernel) (by decide +kernel) (by decide +kernel) (by decide +kernel) (by decide +kernel)
theorem allAtoms_all (ts : List Jvm.Cond) (a : Array Jvm.Value) (st : Jvm.State) : (allAtoms ts).before a st = ts.all (fun c => c.before a st) := by
  induction ts with
  | nil => rfl
  | cons c t ih =>
    show (Jvm.Cond.and c (allAtoms t)).before a st = _
    rw [Jvm.Cond.before_and, ih, List.all_cons]
def words1 : List Jvm.Cond := Jvm.Cond.code x code maxLocals ret :: tables_1
/-- a 'code' word, met by the world's own term for the bytes: nothing is compared byte by byte -/
theorem code_word {y : MethodName} {bytes : ByteArray} {mx : Nat} {rt : Option FieldType} {a : Array Value} {s : State} {m : MethodId} {meth : Method} {c : Code} (h1 : s.methodNamed? y = some m) (h2 : s.vm.method? m = some meth) (h3 : meth.code = some c) (h4 : c.code = bytes)
    (h5 : (c.maxLocals == mx && c.exceptionTable.isEmpty && decide (c.maxStack ≤ mostOperands) && decide (meth.sig.returnType = rt) && !meth.locks && decide (parseMethodDescriptor y.desc = some meth.sig)) = true) : (Jvm.Cond.code y bytes mx rt).before a s = true := by
  simp only [Bool.and_eq_true, beq_iff_eq, Bool.not_eq_true', decide_eq_true_eq] at h5
  obtain ⟨⟨⟨⟨⟨g1, g2⟩, g3⟩, g4⟩, g5⟩, g6⟩ := h5
  simp [Cond.before, Cond.holds, Cond.value, h1, h2, h3, h4, g1, g2, g3, g4, g5, g6]
def isCode : Jvm.Cond → Bool
  | .code _ _ _ _ => true
  | _ => false
theorem all_split {L : List Jvm.Cond} {P : Jvm.Cond → Bool} (h1 : L.all (fun c => isCode c || P c) = true) (h2 : ∀ c ∈ L.filter isCode, P c = true) : L.all P = true := by
  refine List.all_eq_true.mpr fun c hc => ?_
  have h := List.all_eq_true.mp h1 c hc
  rcases Bool.eq_false_or_eq_true (isCode c) with hi | hi
  · exact h2 c (List.mem_filter.mpr ⟨hc, hi⟩)
  · simpa [hi] using h
set_option maxRecDepth 65536 in
theorem w_c0 : (Jvm.Cond.code x code maxLocals ret).before args0 about1 = true := code_word (m := ⟨1, 2⟩) (meth := k1m2) (c := k1c2) (by decide +kernel) rfl rfl rfl (by decide +kernel)
set_option maxRecDepth 65536 in
theorem w_c1 : (Jvm.Cond.code ({ cls := "com/example/request_session_scope/requestsessionscope/PropagationModePinLaw", name := "pick", desc := "(I)Lcom/example/request_session_scope/requestsessionscope/Propagation;" } : Jvm.MethodName) method_2_code (1 : Nat) (Option.some (Jvm.ClassFile.FieldType.object "com/example/request_session_scope/requestsessionscope/Propagation"))).before args0 about1 = true := code_word (m := ⟨1, 1⟩) (meth := k1m1) (c := k1c1) (by decide +kernel) rfl rfl rfl (by decide +kernel)
set_option maxRecDepth 65536 in
theorem w_c2 : (Jvm.Cond.code ({ cls := "com/example/request_session_scope/requestsessionscope/Propagation", name := "mode", desc := "(Z)Lcom/example/request_session_scope/requestsessionscope/Propagation$Mode;" } : Jvm.MethodName) prog_14_method_4_code (2 : Nat) (Option.some (Jvm.ClassFile.FieldType.object "com/example/request_session_scope/requestsessionscope/Propagation$Mode"))).before args0 about1 = true := code_word (m := ⟨6, 0⟩) (meth := k6m0) (c := k6c0) (by decide +kernel) rfl rfl rfl (by decide +kernel)
def codes1 : List Jvm.Cond := [Jvm.Cond.code x code maxLocals ret, Jvm.Cond.code ({ cls := "com/example/request_session_scope/requestsessionscope/PropagationModePinLaw", name := "pick", desc := "(I)Lcom/example/request_session_scope/requestsessionscope/Propagation;" } : Jvm.MethodName) method_2_code (1 : Nat) (Option.some (Jvm.ClassFile.FieldType.object "com/example/request_session_scope/requestsessionscope/Propagation")), Jvm.Cond.code ({ cls := "com/example/request_session_scope/requestsessionscope/Propagation", name := "mode", desc := "(Z)Lcom/example/request_session_scope/requestsessionscope/Propagation$Mode;" } : Jvm.MethodName) prog_14_method_4_code (2 : Nat) (Option.some (Jvm.ClassFile.FieldType.object "com/example/request_session_scope/requestsessionscope/Propagation$Mode"))]
set_option maxRecDepth 65536 in
theorem codes_eq : words1.filter isCode = codes1 := rfl
theorem w_codes : ∀ c ∈ words1.filter isCode, c.before args0 about1 = true := by
  rw [codes_eq]
  intro c hc
  simp only [codes1, List.mem_cons, List.not_mem_nil, or_false] at hc
  rcases hc with rfl | rfl | rfl
  · exact w_c0
  · exact w_c1
  · exact w_c2
set_option maxRecDepth 65536 in
theorem w_t1 : (words1.take 24).all (fun c => isCode c || c.before args0 about1) = true := by decide +kernel
set_option maxRecDepth 65536 in
theorem w_t2 : (words1.drop 24).all (fun c => isCode c || c.before args0 about1) = true := by decide +kernel
theorem w_tables : (allAtoms (Jvm.Cond.code x code maxLocals ret :: tables_1)).before args0 about1 = true := by
  rw [allAtoms_all]
  show words1.all (fun c => c.before args0 about1) = true
  refine all_split ?_ w_codes
  rw [← List.take_append_drop 24 words1, List.all_append, w_t1, w_t2]
  rfl
set_option maxRecDepth 65536 in
theorem w_case : (Jvm.Cond.and given_1 narrow_1).before args0 about1 = true := by decide +kernel
theorem w_applies : (headSpec (Jvm.Cond.code x code maxLocals ret :: tables_1) room_1).applies x e0.platform about1 = true :=
  (Spec.applies_iff w_frames).mpr ⟨w_running, w_runnable, w_alone, w_named, w_hears, w_ripe, w_room, w_tables⟩
theorem atStart : AtStart classFile x code maxLocals ret World_1 tables_1 room_1 Calls_1 rest_1 Pre_1 launch0 p0 e0 about1 theMethod args0 below0 :=
  ⟨lists_1, trivial, launch0.admits_env _ _ _, launch0.least_env, fairChoices_fair.cas, fairChoices_fair.clock, w_frames, w_args, w_heap, w_applies, trivial, trivial, w_case⟩
end start1
theorem witness_1 : WitnessClaimed_1 := ⟨start1.p0, start1.e0, start1.about1, start1.theMethod, start1.args0, start1.below0, start1.atStart⟩
end Jvm.Pilot.@@N@@
