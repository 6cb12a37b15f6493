import JvmDerived
import JvmDerived.Pilot.@@N@@Statement
import JvmDerived.Pilot.@@N@@Code
set_option linter.unusedVariables false
set_option linter.unusedSimpArgs false
@@BLOCK:NumsL.lean.txt@@
namespace Jvm.RoadKit
open Sem ClassFile Op Lib Jvm.Stand Jvm.Free Jvm.LawKit
section Own
variable {p : Program} {l : Launch} {e : Env} {R : Room} {s : State} {m : MethodId} {args : Array Value} {below : List Frame} {meth : Method} {c : Code} {T T' : State} {locs : List Loc} {cells slots : Nat}
theorem retI (X : Stand p l e R s m args below meth c T locs cells slots) (hx : p.tables.exec = Jvm.exec) {pc : Nat} {Ls : Array Slot} {z : Int32} {rest : List Value} (hret : meth.sig.returnType = some .int) (hd : decode c.code pc = .ok (.ireturn, 1)) {fs : List Frame}
    (hl : ∀ (f : JFrame) (acts : List Action), f.method = m → f.locked = none → f.entered = [] → (doReturn e (T.setTop f) acts (some (.int z))).1 = T.setFrames fs) : Steps p.tables e below (T.setTop (mkF m pc Ls (.int z :: rest))) (T.setFrames fs) := by
  have hm' : T.vm.method? m = some meth := X.method'
  have hn : narrow .int (.int z) = .int z := rfl
  show Steps p.tables e below (T.setTop { method := m, pc := pc, locals := Ls, stack := _ :: rest, locked := none }) _
  jvm_step X.here [X.here.top, hx, hd, hm', hret, hn]
  first | (intro acts; rw [hl _ acts rfl rfl rfl]) | rw [hl _ _ rfl rfl rfl]
  exact Steps.refl _
/-- what is left of a walk: it comes to an end at which K holds -/
def own_Go (p : Program) (e : Env) (below : List Frame) (K : Outcome → State → Prop) (T : State) (g : JFrame) : Prop := ∃ s₂ o, Steps p.tables e below (T.setTop g) s₂ ∧ s₂.status = .running ∧ Ended s₂ below o ∧ K o s₂
def own_K (s : State) (Q : Option Value → Heap → List Loc → Prop) (C S : Nat) (o : Outcome) (U' : State) : Prop := ∃ v L, o = .returned v ∧ Q v U'.heap L ∧ FrameEnd s o U' L C S
variable {K : Outcome → State → Prop} {g g' : JFrame} {Q : Option Value → Heap → List Loc → Prop} {C S : Nat}
theorem own_st (st : ∀ target, Steps p.tables e below (T'.setTop g') target → Steps p.tables e below (T.setTop g) target) (k : own_Go p e below K T' g') : own_Go p e below K T g := by
  obtain ⟨s2, o, h1, h2⟩ := k
  exact ⟨s2, o, st _ h1, h2⟩
theorem own_tr (st : Steps p.tables e below (T.setTop g) (T'.setTop g')) (k : own_Go p e below K T' g') : own_Go p e below K T g := by
  obtain ⟨s2, o, h1, h2⟩ := k
  exact ⟨s2, o, st.trans h1, h2⟩
theorem own_end (X : Stand p l e R s m args below meth c T locs cells slots) (hlk : meth.locks = false) {v : Option Value} (hv : meth.sig.returnType = none → v = none)
    (hst : ∀ fs, (∀ (f : JFrame) (acts : List Action), f.method = m → f.locked = none → f.entered = [] → (doReturn e (T.setTop f) acts v).1 = T.setFrames fs) → Steps p.tables e below (T.setTop g) (T.setFrames fs)) (hc : cells ≤ C) (hs : slots ≤ S) (hQ : Q v T.heap locs) :
    own_Go p e below (own_K s Q C S) T g := by
  obtain ⟨fs, hr, hrun, hended, hW, hsame⟩ := X.leave (v := v) hv hlk
  exact ⟨_, _, hst fs hr, hrun, hended, _, _, rfl, hQ, ⟨_, rfl⟩, hW, hsame.mono hc hs⟩
theorem own_retI (X : Stand p l e R s m args below meth c T locs cells slots) (hx : p.tables.exec = Jvm.exec) (hlk : meth.locks = false) {pc : Nat} {Ls : Array Slot} {z : Int32} {rest : List Value} (hret : meth.sig.returnType = some .int) (hd : decode c.code pc = .ok (.ireturn, 1)) (hc : cells ≤ C) (hs : slots ≤ S) (hQ : Q (some (.int z)) T.heap locs) :
    own_Go p e below (own_K s Q C S) T (mkF m pc Ls (.int z :: rest)) := own_end X hlk (fun h => by rw [hret] at h; cases h) (fun fs hr => retI X hx hret hd hr) hc hs hQ
theorem own_retN (X : Stand p l e R s m args below meth c T locs cells slots) (hx : p.tables.exec = Jvm.exec) (hlk : meth.locks = false) {pc : Nat} {Ls : Array Slot} {z : Int32} {t : FieldType} {rest : List Value} (hret : meth.sig.returnType = some t) (ht : t = .boolean ∨ t = .byte ∨ t = .char ∨ t = .short) (hd : decode c.code pc = .ok (.ireturn, 1)) (hc : cells ≤ C) (hs : slots ≤ S) (hQ : Q (some (.int (nar t z))) T.heap locs) :
    own_Go p e below (own_K s Q C S) T (mkF m pc Ls (.int z :: rest)) := own_end X hlk (fun h => by rw [hret] at h; cases h) (fun fs hr => retN X hx hret ht hd hr) hc hs hQ
theorem own_retA (X : Stand p l e R s m args below meth c T locs cells slots) (hx : p.tables.exec = Jvm.exec) (hlk : meth.locks = false) {pc : Nat} {Ls : Array Slot} {v : Value} {t : FieldType} {rest : List Value} (hret : meth.sig.returnType = some t) (ht : t.isReference = true) (hv : v.isRef = true) (hd : decode c.code pc = .ok (.areturn, 1)) (hc : cells ≤ C) (hs : slots ≤ S) (hQ : Q (some v) T.heap locs) :
    own_Go p e below (own_K s Q C S) T (mkF m pc Ls (v :: rest)) := own_end X hlk (fun h => by rw [hret] at h; cases h) (fun fs hr => retOut X hx hret (by cases t <;> first | (cases ht; done) | (cases v <;> first | rfl | (cases hv; done))) (Or.inr (Or.inr (Or.inr (Or.inr ⟨rfl, ht, hv⟩)))) hd hr) hc hs hQ
theorem own_retL (X : Stand p l e R s m args below meth c T locs cells slots) (hx : p.tables.exec = Jvm.exec) (hlk : meth.locks = false) {pc : Nat} {Ls : Array Slot} {w : Int64} (hret : meth.sig.returnType = some .long) (hd : decode c.code pc = .ok (.lreturn, 1)) (hc : cells ≤ C) (hs : slots ≤ S) (hQ : Q (some (.long w)) T.heap locs) :
    own_Go p e below (own_K s Q C S) T (mkF m pc Ls [.long w]) := own_end X hlk (fun h => by rw [hret] at h; cases h) (fun fs hr => X.lreturnOut hx hret hd hr) hc hs hQ
theorem own_ret (X : Stand p l e R s m args below meth c T locs cells slots) (hx : p.tables.exec = Jvm.exec) (hlk : meth.locks = false) {pc : Nat} {Ls : Array Slot} (hret : meth.sig.returnType = none) (hd : decode c.code pc = .ok (.return_, 1)) (hc : cells ≤ C) (hs : slots ≤ S) (hQ : Q none T.heap locs) :
    own_Go p e below (own_K s Q C S) T (mkF m pc Ls []) := own_end X hlk (fun _ => rfl) (fun fs hr => X.returnOut hx hret hd hr) hc hs hQ
variable {Z : State} {h : Heap} {a : Addr} {k : ClassId} {ty : FieldType} {z j : Int32} {vs : List Value} {dv v : Value} {rest : List Value} {target : State}
theorem own_len (X : Stand p l e R s m args below meth c T locs cells slots) (hx : p.tables.exec = Jvm.exec) (hZ : Z.Warmed39 s.vm) (eT : T.heap = h) (F : Arv Z h a k ty z vs dv) (hg : g.method = m) (hs : g.stack = .ref a :: rest) (hd : decode c.code g.pc = .ok (.arraylength, 1))
    (hr : Steps p.tables e below (T.setTop { g with pc := g.pc + 1, stack := .int z :: rest }) target) : Steps p.tables e below (T.setTop g) target := by
  obtain ⟨cl, A, -, S, q, -, -⟩ := F
  refine X.arraylength hx (by rw [eT]; exact A.1) (State.isArrayOf_alike hZ.alike A.2.1) hg hs hd _ ?_
  rw [len_of S q]
  exact hr
theorem own_ldR (X : Stand p l e R s m args below meth c T locs cells slots) (hx : p.tables.exec = Jvm.exec) (hZ : Z.Warmed39 s.vm) (eT : T.heap = h) (F : Arv Z h a k ty z vs dv) (hty : ty.isReference = true) (hj : ¬ j < 0 ∧ j < z) (hv : vs.getD j.toNatClampNeg dv = v) (hg : g.method = m) (hs : g.stack = .int j :: .ref a :: rest) (hd : decode c.code g.pc = .ok (.aaload, 1))
    (hr : Steps p.tables e below (T.setTop { g with pc := g.pc + 1, stack := v :: rest }) target) : Steps p.tables e below (T.setTop g) target := by
  obtain ⟨cl, A, -, S, q, H, -⟩ := F
  exact X.aaload hx (by rw [eT]; exact A.1) (State.isArrayOf_alike hZ.alike A.2.1) hty A.2.2 (inb_of S hj) (H.at (inb_of S hj) hv) hg hs hd _ hr
theorem own_ldB (X : Stand p l e R s m args below meth c T locs cells slots) (hx : p.tables.exec = Jvm.exec) (hZ : Z.Warmed39 s.vm) (eT : T.heap = h) (F : Arv Z h a k .byte z vs dv) (hj : ¬ j < 0 ∧ j < z) (hv : vs.getD j.toNatClampNeg dv = v) (hg : g.method = m) (hs : g.stack = .int j :: .ref a :: rest) (hd : decode c.code g.pc = .ok (.baload, 1))
    (hr : Steps p.tables e below (T.setTop { g with pc := g.pc + 1, stack := v :: rest }) target) : Steps p.tables e below (T.setTop g) target := by
  obtain ⟨cl, A, -, S, q, H, -⟩ := F
  exact X.baloadBytes hx (by rw [eT]; exact A.1) (State.isArrayOf_alike hZ.alike A.2.1) A.2.2 (inb_of S hj) (H.at (inb_of S hj) hv) hg hs hd _ hr
theorem own_ldJ (X : Stand p l e R s m args below meth c T locs cells slots) (hx : p.tables.exec = Jvm.exec) (hZ : Z.Warmed39 s.vm) (eT : T.heap = h) (F : Arv Z h a k .long z vs dv) (hj : ¬ j < 0 ∧ j < z) (hv : vs.getD j.toNatClampNeg dv = v) (hg : g.method = m) (hs : g.stack = .int j :: .ref a :: rest) (hd : decode c.code g.pc = .ok (.laload, 1))
    (hr : Steps p.tables e below (T.setTop { g with pc := g.pc + 1, stack := v :: rest }) target) : Steps p.tables e below (T.setTop g) target := by
  obtain ⟨cl, A, -, S, q, H, -⟩ := F
  exact X.laload hx (by rw [eT]; exact A.1) (State.isArrayOf_alike hZ.alike A.2.1) A.2.2 (inb_of S hj) (H.at (inb_of S hj) hv) hg hs hd _ hr
theorem own_stB (X : Stand p l e R s m args below meth c T locs cells slots) (hx : p.tables.exec = Jvm.exec) (hZ : Z.Warmed39 s.vm) (eT : T.heap = h) (F : Arv Z h a k .byte z vs dv) {x : Int32} (hj : ¬ j < 0 ∧ j < z) (i : Nat) (hi : j.toNatClampNeg = i) (hl : i < vs.length) (hg : g.method = m) (hs : g.stack = .int x :: .int j :: .ref a :: rest) (hd : decode c.code g.pc = .ok (.bastore, 1)) :
    ∃ T' h', Stand p l e R s m args below meth c T' (locs ++ [⟨a, j.toNatClampNeg⟩]) cells slots ∧ T'.heap = h' ∧ Wr h h' a j.toNatClampNeg (.int (nar .byte x)) ∧ Arv Z h' a k .byte z (vs.set i (.int x.toInt8.toInt32)) dv ∧ ∀ target, Steps p.tables e below (T'.setTop { g with pc := g.pc + 1, stack := rest }) target → Steps p.tables e below (T.setTop g) target := by
  obtain ⟨cl, A, q1, S, q3, H, G⟩ := F
  obtain ⟨T', h', X', e', W, st⟩ := stB X hx hZ eT A (inb_of S hj) hg hs hd
  exact ⟨T', h', X', e', W, Arv.set A q1 S q3 H G (fits_nar_byte _) W i hi hl, st⟩
theorem own_pushB (X : Stand p l e R s m args below meth c T locs cells slots) (hx : p.tables.exec = Jvm.exec) (hZ : Z.Warmed39 s.vm) (eT : T.heap = h) (F : Arv Z h a k .byte z vs dv) {x : Int32} (hj : ¬ j < 0 ∧ j < z) (hi : j.toNatClampNeg = vs.length) (hg : g.method = m) (hs : g.stack = .int x :: .int j :: .ref a :: rest) (hd : decode c.code g.pc = .ok (.bastore, 1)) :
    ∃ T' h', Stand p l e R s m args below meth c T' (locs ++ [⟨a, j.toNatClampNeg⟩]) cells slots ∧ T'.heap = h' ∧ Wr h h' a j.toNatClampNeg (.int (nar .byte x)) ∧ Arv Z h' a k .byte z (vs ++ [.int x.toInt8.toInt32]) dv ∧ ∀ target, Steps p.tables e below (T'.setTop { g with pc := g.pc + 1, stack := rest }) target → Steps p.tables e below (T.setTop g) target := by
  have F' : Arv Z h a k .byte z (vs ++ List.replicate 1 dv) dv := F.pad (pad_rep vs dv 1)
  obtain ⟨cl, A, q1, S, q3, H, G⟩ := F'
  obtain ⟨T', h', X', e', W, st⟩ := stB X hx hZ eT A (inb_of S hj) hg hs hd
  have V := Arv.set A q1 S q3 H G (fits_nar_byte _) W vs.length hi (by simp)
  have e : (vs ++ List.replicate 1 dv).set vs.length (.int x.toInt8.toInt32) = vs ++ [.int x.toInt8.toInt32] := by simp
  exact ⟨T', h', X', e', W, e ▸ V, st⟩
theorem own_stJ (X : Stand p l e R s m args below meth c T locs cells slots) (hx : p.tables.exec = Jvm.exec) (hZ : Z.Warmed39 s.vm) (eT : T.heap = h) (F : Arv Z h a k .long z vs dv) {x : Int64} (hj : ¬ j < 0 ∧ j < z) (i : Nat) (hi : j.toNatClampNeg = i) (hl : i < vs.length) (hg : g.method = m) (hs : g.stack = .long x :: .int j :: .ref a :: rest) (hd : decode c.code g.pc = .ok (.lastore, 1)) :
    ∃ T' h', Stand p l e R s m args below meth c T' (locs ++ [⟨a, j.toNatClampNeg⟩]) cells slots ∧ T'.heap = h' ∧ Wr h h' a j.toNatClampNeg (.long x) ∧ Arv Z h' a k .long z (vs.set i (.long x)) dv ∧ ∀ target, Steps p.tables e below (T'.setTop { g with pc := g.pc + 1, stack := rest }) target → Steps p.tables e below (T.setTop g) target := by
  obtain ⟨cl, A, q1, S, q3, H, G⟩ := F
  obtain ⟨T', h', X', e', W, st⟩ := stJ X hx hZ eT A (inb_of S hj) hg hs hd
  exact ⟨T', h', X', e', W, Arv.set A q1 S q3 H G rfl W i hi hl, st⟩
theorem own_stR (X : Stand p l e R s m args below meth c T locs cells slots) (hx : p.tables.exec = Jvm.exec) (hZ : Z.Warmed39 s.vm) (eT : T.heap = h) {C : String} (F : Arv Z h a k (.object C) z vs dv) {b : Addr} (O : Ovr Z k C) (I : Ins Z h b C true) (hj : ¬ j < 0 ∧ j < z) (i : Nat) (hi : j.toNatClampNeg = i) (hl : i < vs.length) (hg : g.method = m) (hs : g.stack = .ref b :: .int j :: .ref a :: rest) (hd : decode c.code g.pc = .ok (.aastore, 1)) :
    ∃ T' h', Stand p l e R s m args below meth c T' (locs ++ [⟨a, j.toNatClampNeg⟩]) cells slots ∧ T'.heap = h' ∧ Wr h h' a j.toNatClampNeg (.ref b) ∧ Arv Z h' a k (.object C) z (vs.set i (.ref b)) dv ∧ ∀ target, Steps p.tables e below (T'.setTop { g with pc := g.pc + 1, stack := rest }) target → Steps p.tables e below (T.setTop g) target := by
  obtain ⟨cl, A, q1, S, q3, H, G⟩ := F
  obtain ⟨T', h', X', e', W, st⟩ := stR X hx hZ eT A (inb_of S hj) rfl (Sto.ofV A q1 O I) hg hs hd
  exact ⟨T', h', X', e', W, Arv.set A q1 S q3 H G rfl W i hi hl, st⟩
end Own
end Jvm.RoadKit
namespace Jvm.Pilot.@@N@@
open Jvm Jvm.ClassFile Sem Op Lib Jvm.Free Jvm.Stand Jvm.LawKit Jvm.RoadKit Bundle Jvm.Pilot.@@N@@.Jvm.D
theorem own_eq_int {args : Array Value} {first s : State} {o : Option Outcome} {idx : List Nat} {t : Term} {k : Int32} (h : (Cond.eq t (.int k)).value args first o s idx = some true) : t.eval args first o idx s = some (.int k) := by
  cases ht : t.eval args first o idx s with
  | none => simp [Cond.value, ht] at h
  | some x => cases x <;> simp [Cond.value, Term.eval, ht] at h ⊢; exact h
theorem own_eq_ref {args : Array Value} {first s : State} {o : Option Outcome} {idx : List Nat} {t u : Term} {a : Addr} (hu : u.eval args first o idx s = some (.ref a)) (h : (Cond.eq t u).value args first o s idx = some true) : t.eval args first o idx s = some (.ref a) := by
  cases ht : t.eval args first o idx s with
  | none => simp [Cond.value, ht] at h
  | some x => cases x <;> simp [Cond.value, ht, hu] at h ⊢; exact h
theorem own_arr_start {args : Array Value} {Z : State} {t : Term} {a : Addr} {ty : FieldType} {z : Int32} (ev : t.eval args Z none [] Z = some (.ref a)) (ha : (Cond.arrayOf t ty).value args Z none Z [] = some true) (hl : (Cond.eq (.length t) (.int z)).value args Z none Z [] = some true) : ∃ c, Arr Z Z.heap a c ty ∧ c.slots.size < 2 ^ 31 ∧ c.slots.size.toInt32 = z := by
  obtain ⟨c, A⟩ := Arr.start ev ha
  have hq := own_eq_int hl
  have hc : Z.arrayAt? a = some c := A.fin (Vm.Alike.refl _)
  refine ⟨c, A, ?_⟩
  simp only [Term.eval, ev, hc, Option.bind_eq_bind, Option.bind_some] at hq
  split at hq
  · rename_i hlt
    simp only [Option.pure_def, Option.some.injEq, Value.int.injEq] at hq
    exact ⟨hlt, hq⟩
  · cases hq
theorem own_pn0 : plainName "com/example/hashwright/hashwright/BlockHasher" = true := by first | (simp [plainName, overriddenIn]; done) | decide +kernel
theorem own_pn1 : plainName "com/example/hashwright/hashwright/BlockDigest" = true := by first | (simp [plainName, overriddenIn]; done) | decide +kernel
theorem own_pn2 : plainName "com/example/hashwright/hashwright/Algorithm" = true := by first | (simp [plainName, overriddenIn]; done) | decide +kernel
theorem own_pn3 : plainName "com/example/hashwright/hashwright/LengthPaddedDigest" = true := by first | (simp [plainName, overriddenIn]; done) | decide +kernel
theorem own_pn4 : plainName "com/example/hashwright/hashwright/Sha512" = true := by first | (simp [plainName, overriddenIn]; done) | decide +kernel
theorem own_pn5 : plainName "com/example/hashwright/hashwright/Sha512WriteStatePinLaw" = true := by first | (simp [plainName, overriddenIn]; done) | decide +kernel
theorem own_pd0 : parseMethodDescriptor "(I)V" = some ⟨[.int], none⟩ := by decide +kernel
theorem own_pd1 : parseMethodDescriptor "()Ljava/lang/String;" = some ⟨[], some (.object "java/lang/String")⟩ := by decide +kernel
theorem own_pd2 : parseMethodDescriptor "()I" = some ⟨[], some .int⟩ := by decide +kernel
theorem own_pd3 : parseMethodDescriptor "(Ljava/lang/String;II)V" = some ⟨[.object "java/lang/String", .int, .int], none⟩ := by decide +kernel
theorem own_pd4 : parseMethodDescriptor "(Lcom/example/hashwright/hashwright/Algorithm;I)V" = some ⟨[.object "com/example/hashwright/hashwright/Algorithm", .int], none⟩ := by decide +kernel
theorem own_pd5 : parseMethodDescriptor "(Lcom/example/hashwright/hashwright/Algorithm;II)V" = some ⟨[.object "com/example/hashwright/hashwright/Algorithm", .int, .int], none⟩ := by decide +kernel
theorem own_pd6 : parseMethodDescriptor "(Lcom/example/hashwright/hashwright/Algorithm;[J)V" = some ⟨[.object "com/example/hashwright/hashwright/Algorithm", .array .long], none⟩ := by decide +kernel
theorem own_pd7 : parseMethodDescriptor "([B)V" = some ⟨[.array .byte], none⟩ := by decide +kernel
theorem own_pd8 : parseMethodDescriptor "([JI)B" = some ⟨[.array .long, .int], some .byte⟩ := by decide +kernel
theorem own_da_0 : decode prog_16_method_1_code 0 = .ok (.aload_n 0, 1) := by decide +kernel
theorem own_da_1 : decode prog_16_method_1_code 1 = .ok (.aload_n 1, 1) := by decide +kernel
theorem own_da_2 : decode prog_16_method_1_code 2 = .ok (.sipush 128, 3) := by decide +kernel
theorem own_da_5 : decode prog_16_method_1_code 5 = .ok (.bipush 16, 2) := by decide +kernel
theorem own_da_7 : decode prog_16_method_1_code 7 = .ok (.invokespecial 1, 3) := by decide +kernel
theorem own_da_10 : decode prog_16_method_1_code 10 = .ok (.aload_n 0, 1) := by decide +kernel
theorem own_da_11 : decode prog_16_method_1_code 11 = .ok (.bipush 80, 2) := by decide +kernel
theorem own_da_13 : decode prog_16_method_1_code 13 = .ok (.newarray .long, 2) := by decide +kernel
theorem own_da_15 : decode prog_16_method_1_code 15 = .ok (.putfield 7, 3) := by decide +kernel
theorem own_da_18 : decode prog_16_method_1_code 18 = .ok (.aload_n 0, 1) := by decide +kernel
theorem own_da_19 : decode prog_16_method_1_code 19 = .ok (.aload_n 2, 1) := by decide +kernel
theorem own_da_20 : decode prog_16_method_1_code 20 = .ok (.putfield 13, 3) := by decide +kernel
theorem own_da_23 : decode prog_16_method_1_code 23 = .ok (.aload_n 0, 1) := by decide +kernel
theorem own_da_24 : decode prog_16_method_1_code 24 = .ok (.aload_n 2, 1) := by decide +kernel
theorem own_da_25 : decode prog_16_method_1_code 25 = .ok (.invokevirtual 16, 3) := by decide +kernel
theorem own_da_28 : decode prog_16_method_1_code 28 = .ok (.checkcast 17, 3) := by decide +kernel
theorem own_da_31 : decode prog_16_method_1_code 31 = .ok (.putfield 21, 3) := by decide +kernel
theorem own_da_34 : decode prog_16_method_1_code 34 = .ok (.return_, 1) := by decide +kernel
theorem own_db_0 : decode prog_13_method_1_code 0 = .ok (.aload_n 0, 1) := by decide +kernel
theorem own_db_1 : decode prog_13_method_1_code 1 = .ok (.aload_n 1, 1) := by decide +kernel
theorem own_db_2 : decode prog_13_method_1_code 2 = .ok (.iload_n 2, 1) := by decide +kernel
theorem own_db_3 : decode prog_13_method_1_code 3 = .ok (.invokespecial 1, 3) := by decide +kernel
theorem own_db_6 : decode prog_13_method_1_code 6 = .ok (.aload_n 0, 1) := by decide +kernel
theorem own_db_7 : decode prog_13_method_1_code 7 = .ok (.iload_n 3, 1) := by decide +kernel
theorem own_db_8 : decode prog_13_method_1_code 8 = .ok (.putfield 7, 3) := by decide +kernel
theorem own_db_11 : decode prog_13_method_1_code 11 = .ok (.return_, 1) := by decide +kernel
theorem own_dc_0 : decode prog_4_method_1_code 0 = .ok (.aload_n 0, 1) := by decide +kernel
theorem own_dc_1 : decode prog_4_method_1_code 1 = .ok (.aload_n 1, 1) := by decide +kernel
theorem own_dc_2 : decode prog_4_method_1_code 2 = .ok (.invokevirtual 1, 3) := by decide +kernel
theorem own_dc_5 : decode prog_4_method_1_code 5 = .ok (.aload_n 1, 1) := by decide +kernel
theorem own_dc_6 : decode prog_4_method_1_code 6 = .ok (.invokevirtual 7, 3) := by decide +kernel
theorem own_dc_9 : decode prog_4_method_1_code 9 = .ok (.iload_n 2, 1) := by decide +kernel
theorem own_dc_10 : decode prog_4_method_1_code 10 = .ok (.invokespecial 11, 3) := by decide +kernel
theorem own_dc_13 : decode prog_4_method_1_code 13 = .ok (.return_, 1) := by decide +kernel
theorem own_dd_0 : decode prog_4_method_2_code 0 = .ok (.aload_n 0, 1) := by decide +kernel
theorem own_dd_1 : decode prog_4_method_2_code 1 = .ok (.iload_n 3, 1) := by decide +kernel
theorem own_dd_2 : decode prog_4_method_2_code 2 = .ok (.invokespecial 17, 3) := by decide +kernel
theorem own_dd_5 : decode prog_4_method_2_code 5 = .ok (.aload_n 0, 1) := by decide +kernel
theorem own_dd_6 : decode prog_4_method_2_code 6 = .ok (.aload_n 1, 1) := by decide +kernel
theorem own_dd_7 : decode prog_4_method_2_code 7 = .ok (.putfield 22, 3) := by decide +kernel
theorem own_dd_10 : decode prog_4_method_2_code 10 = .ok (.aload_n 0, 1) := by decide +kernel
theorem own_dd_11 : decode prog_4_method_2_code 11 = .ok (.iload_n 2, 1) := by decide +kernel
theorem own_dd_12 : decode prog_4_method_2_code 12 = .ok (.putfield 26, 3) := by decide +kernel
theorem own_dd_15 : decode prog_4_method_2_code 15 = .ok (.return_, 1) := by decide +kernel
theorem own_de_0 : decode prog_5_method_1_code 0 = .ok (.aload_n 0, 1) := by decide +kernel
theorem own_de_1 : decode prog_5_method_1_code 1 = .ok (.invokespecial 1, 3) := by decide +kernel
theorem own_de_4 : decode prog_5_method_1_code 4 = .ok (.aload_n 0, 1) := by decide +kernel
theorem own_de_5 : decode prog_5_method_1_code 5 = .ok (.iload_n 1, 1) := by decide +kernel
theorem own_de_6 : decode prog_5_method_1_code 6 = .ok (.newarray .byte, 2) := by decide +kernel
theorem own_de_8 : decode prog_5_method_1_code 8 = .ok (.putfield 7, 3) := by decide +kernel
theorem own_de_11 : decode prog_5_method_1_code 11 = .ok (.return_, 1) := by decide +kernel
theorem own_df_0 : decode prog_1_method_7_code 0 = .ok (.aload_n 0, 1) := by decide +kernel
theorem own_df_1 : decode prog_1_method_7_code 1 = .ok (.getfield 99, 3) := by decide +kernel
theorem own_df_4 : decode prog_1_method_7_code 4 = .ok (.areturn, 1) := by decide +kernel
theorem own_dg_0 : decode prog_1_method_10_code 0 = .ok (.aload_n 0, 1) := by decide +kernel
theorem own_dg_1 : decode prog_1_method_10_code 1 = .ok (.getfield 109, 3) := by decide +kernel
theorem own_dg_4 : decode prog_1_method_10_code 4 = .ok (.ireturn, 1) := by decide +kernel
theorem own_dh_0 : decode prog_16_method_7_code 0 = .ok (.iconst 0, 1) := by decide +kernel
theorem own_dh_1 : decode prog_16_method_7_code 1 = .ok (.istore_n 2, 1) := by decide +kernel
theorem own_dh_2 : decode prog_16_method_7_code 2 = .ok (.iload_n 2, 1) := by decide +kernel
theorem own_dh_3 : decode prog_16_method_7_code 3 = .ok (.aload_n 1, 1) := by decide +kernel
theorem own_dh_4 : decode prog_16_method_7_code 4 = .ok (.arraylength, 1) := by decide +kernel
theorem own_dh_5 : decode prog_16_method_7_code 5 = .ok (.if_icmp .ge 34, 3) := by decide +kernel
theorem own_dh_8 : decode prog_16_method_7_code 8 = .ok (.aload_n 1, 1) := by decide +kernel
theorem own_dh_9 : decode prog_16_method_7_code 9 = .ok (.iload_n 2, 1) := by decide +kernel
theorem own_dh_10 : decode prog_16_method_7_code 10 = .ok (.aload_n 0, 1) := by decide +kernel
theorem own_dh_11 : decode prog_16_method_7_code 11 = .ok (.getfield 21, 3) := by decide +kernel
theorem own_dh_14 : decode prog_16_method_7_code 14 = .ok (.iload_n 2, 1) := by decide +kernel
theorem own_dh_15 : decode prog_16_method_7_code 15 = .ok (.bipush 8, 2) := by decide +kernel
theorem own_dh_17 : decode prog_16_method_7_code 17 = .ok (.idiv, 1) := by decide +kernel
theorem own_dh_18 : decode prog_16_method_7_code 18 = .ok (.laload, 1) := by decide +kernel
theorem own_dh_19 : decode prog_16_method_7_code 19 = .ok (.bipush 56, 2) := by decide +kernel
theorem own_dh_21 : decode prog_16_method_7_code 21 = .ok (.bipush 8, 2) := by decide +kernel
theorem own_dh_23 : decode prog_16_method_7_code 23 = .ok (.iload_n 2, 1) := by decide +kernel
theorem own_dh_24 : decode prog_16_method_7_code 24 = .ok (.bipush 8, 2) := by decide +kernel
theorem own_dh_26 : decode prog_16_method_7_code 26 = .ok (.irem, 1) := by decide +kernel
theorem own_dh_27 : decode prog_16_method_7_code 27 = .ok (.imul, 1) := by decide +kernel
theorem own_dh_28 : decode prog_16_method_7_code 28 = .ok (.isub, 1) := by decide +kernel
theorem own_dh_29 : decode prog_16_method_7_code 29 = .ok (.lushr, 1) := by decide +kernel
theorem own_dh_30 : decode prog_16_method_7_code 30 = .ok (.l2i, 1) := by decide +kernel
theorem own_dh_31 : decode prog_16_method_7_code 31 = .ok (.i2b, 1) := by decide +kernel
theorem own_dh_32 : decode prog_16_method_7_code 32 = .ok (.bastore, 1) := by decide +kernel
theorem own_dh_33 : decode prog_16_method_7_code 33 = .ok (.iinc 2 1, 3) := by decide +kernel
theorem own_dh_36 : decode prog_16_method_7_code 36 = .ok (.goto (-34), 3) := by decide +kernel
theorem own_dh_39 : decode prog_16_method_7_code 39 = .ok (.return_, 1) := by decide +kernel
theorem own_di_0 : decode method_3_code 0 = .ok (.aload_n 0, 1) := by decide +kernel
theorem own_di_1 : decode method_3_code 1 = .ok (.iload_n 1, 1) := by decide +kernel
theorem own_di_2 : decode method_3_code 2 = .ok (.iconst 3, 1) := by decide +kernel
theorem own_di_3 : decode method_3_code 3 = .ok (.ishr, 1) := by decide +kernel
theorem own_di_4 : decode method_3_code 4 = .ok (.laload, 1) := by decide +kernel
theorem own_di_5 : decode method_3_code 5 = .ok (.lstore_n 2, 1) := by decide +kernel
theorem own_di_6 : decode method_3_code 6 = .ok (.lload_n 2, 1) := by decide +kernel
theorem own_di_7 : decode method_3_code 7 = .ok (.iload_n 1, 1) := by decide +kernel
theorem own_di_8 : decode method_3_code 8 = .ok (.bipush 7, 2) := by decide +kernel
theorem own_di_10 : decode method_3_code 10 = .ok (.iand, 1) := by decide +kernel
theorem own_di_11 : decode method_3_code 11 = .ok (.bipush 8, 2) := by decide +kernel
theorem own_di_13 : decode method_3_code 13 = .ok (.imul, 1) := by decide +kernel
theorem own_di_14 : decode method_3_code 14 = .ok (.lshl, 1) := by decide +kernel
theorem own_di_15 : decode method_3_code 15 = .ok (.bipush 56, 2) := by decide +kernel
theorem own_di_17 : decode method_3_code 17 = .ok (.lushr, 1) := by decide +kernel
theorem own_di_18 : decode method_3_code 18 = .ok (.l2i, 1) := by decide +kernel
theorem own_di_19 : decode method_3_code 19 = .ok (.i2b, 1) := by decide +kernel
theorem own_di_20 : decode method_3_code 20 = .ok (.ireturn, 1) := by decide +kernel
theorem own_ef_bh (m : MethodId) (x0 : Addr) (x1 : Int32) : entryFrame m #[(.ref x0), (.int x1)] 2 = mkF m 0 #[.val (.ref x0), .val (.int x1)] [] := by first | (simp [entryFrame, mkF, argsToLocals, Value.category]; done) | rfl
def own_Q_bh (Z : State) (o : Addr) (h0 : Heap) (n0 : Nat) (v : Option Value) (h : Heap) (L : List Loc) : Prop := v = none ∧ Fr n0 L ∧ Keep h0 h [o] ∧ Fld Z h o "com/example/hashwright/hashwright/BlockDigest" "algorithm" "Ljava/lang/String;" .null ∧ Fld Z h o "com/example/hashwright/hashwright/BlockDigest" "digestLength" "I" (.int (0 : Int32)) ∧ Fld Z h o "com/example/hashwright/hashwright/LengthPaddedDigest" "lengthFieldBytes" "I" (.int (0 : Int32)) ∧ Fld Z h o "com/example/hashwright/hashwright/Sha512" "schedule" "[J" .null ∧ Fld Z h o "com/example/hashwright/hashwright/Sha512" "initialState" "[J" .null ∧ Fld Z h o "com/example/hashwright/hashwright/Sha512" "state" "[J" .null
set_option maxRecDepth 65536 in
set_option maxHeartbeats 40000000 in
theorem own_rm_bh (l : Launch) (Z : State) (a0 : Array Value) (hw : ∀ d ∈ tables_1, d.before a0 Z = true) (ws : List Jvm.Cond) (o : Addr) (h0 : Heap) (n0 : Nat) (Z0 : n0 ≤ h0.size) (E_o : Exa Z h0 o "com/example/hashwright/hashwright/Sha512") (g_o : n0 ≤ o) (F_block : Fld Z h0 o "com/example/hashwright/hashwright/BlockHasher" "block" "[B" .null) (F_algorithm : Fld Z h0 o "com/example/hashwright/hashwright/BlockDigest" "algorithm" "Ljava/lang/String;" .null) (F_dl : Fld Z h0 o "com/example/hashwright/hashwright/BlockDigest" "digestLength" "I" (.int (0 : Int32))) (F_lengthFieldBytes : Fld Z h0 o "com/example/hashwright/hashwright/LengthPaddedDigest" "lengthFieldBytes" "I" (.int (0 : Int32))) (F_schedule : Fld Z h0 o "com/example/hashwright/hashwright/Sha512" "schedule" "[J" .null) (F_initialState : Fld Z h0 o "com/example/hashwright/hashwright/Sha512" "initialState" "[J" .null) (F_state : Fld Z h0 o "com/example/hashwright/hashwright/Sha512" "state" "[J" .null) :
    MetFree l (⟨"com/example/hashwright/hashwright/BlockHasher", "<init>", "(I)V"⟩ : MethodName) (head1 (Jvm.Cond.code (⟨"com/example/hashwright/hashwright/BlockHasher", "<init>", "(I)V"⟩ : MethodName) prog_5_method_1_code 2 none :: ws) ({ frames := 1, cells := 1, slots := 128, locals := 12 } : Room)) (fun zz U => zz = #[(.ref o), (.int (128 : Int32))] ∧ Z.Warmed39 U.vm ∧ U.heap = h0) (fun _ _ _ _ _ => True) (fun _ U zo U' => ∃ v L, zo = .returned v ∧ own_Q_bh Z o h0 n0 v U'.heap L ∧ FrameEnd U zo U' L ({ frames := 1, cells := 1, slots := 128, locals := 12 } : Room).cells ({ frames := 1, cells := 1, slots := 128, locals := 12 } : Room).slots) := by
  refine MetFree.of_bodySF (plainFor_of_name own_pn0) hisR ?_
  intro p e s m args below meth c s₁ Bd hml0 hP hK
  obtain ⟨rfl, hZ, hh⟩ := hP
  have hx := Bd.exec
  have hby := Bd.bytes
  have hml : c.maxLocals = 2 := hml0
  have hown : s.vm.findClass "com/example/hashwright/hashwright/BlockHasher" = some m.cls := findClass_of_methodNamed Bd.named
  have hnm := (name_of_methodNamed Bd.named Bd.method).1
  have X0 : Stand p l e ({ frames := 1, cells := 1, slots := 128, locals := 12 } : Room) s m #[(.ref o), (.int (128 : Int32))] below meth c s₁ [] 0 0 := Stand.of_body Bd
  have e0 : s₁.heap = h0 := by rw [← hh, Bd.state]; rfl
  have N0 := Fr.nil n0
  show own_Go p e below (own_K s (own_Q_bh Z o h0 n0) ({ frames := 1, cells := 1, slots := 128, locals := 12 } : Room).cells ({ frames := 1, cells := 1, slots := 128, locals := 12 } : Room).slots) s₁ (entryFrame m #[(.ref o), (.int (128 : Int32))] 2)
  rw [own_ef_bh m o (128 : Int32)]
  show own_Go p e below _ s₁ (mkF m 0 #[rv o, iv 128] [])
  have K0 : Keep h0 h0 [o] := Keep.refl _ _
  refine own_st (fun _ k => XS.aloadN X0.here hx rfl (hb hby own_de_0) rfl rfl k) ?_
  show own_Go p e below _ s₁ (mkF m 1 #[rv o, iv 128] [(.ref o)])
  obtain ⟨T1, X1, e1, st1⟩ := initO X0 hx hZ hown (hw _ (List.mem_of_getElem? (i := 43) rfl)) (hw _ (List.mem_of_getElem? (i := 44) rfl)) (hw _ (List.mem_of_getElem? (i := 45) rfl)) e0 (g := (mkF m 1 #[rv o, iv 128] [(.ref o)])) rfl (by rw [hml]; rfl) rfl (hb hby own_de_1) (by decide) (W := 0) (by show 2 * 0 + _ ≤ _; exact Nat.le_of_eq rfl) (by decide)
  refine own_st st1 ?_
  show own_Go p e below _ T1 (mkF m 4 #[rv o, iv 128] [])
  refine own_st (fun _ k => XS.aloadN X1.here hx rfl (hb hby own_de_4) rfl rfl k) ?_
  show own_Go p e below _ T1 (mkF m 5 #[rv o, iv 128] [(.ref o)])
  refine own_st (fun _ k => XS.iloadN X1.here hx rfl (hb hby own_de_5) rfl k) ?_
  show own_Go p e below _ T1 (mkF m 6 #[rv o, iv 128] [(.int 128), (.ref o)])
  obtain ⟨T2, h2, k_blk, X2, e2, x2, A2, st2⟩ := newP X1 hx hZ (hw _ (List.mem_of_getElem? (i := 46) rfl)) e1 (g := (mkF m 6 #[rv o, iv 128] [(.int 128), (.ref o)])) rfl (hb hby own_de_6) rfl (by decide) (cap := 128) (by decide) (by decide) (by decide) (by decide)
  obtain ⟨blk, g2⟩ : ∃ z, z = h0.size := ⟨_, rfl⟩
  rw [← g2] at A2 st2
  have ne_o_blk : o ≠ blk := g2 ▸ Nat.ne_of_lt E_o.lt
  have g_blk : n0 ≤ blk := g2 ▸ Z0
  have sz_blk : h0.size ≤ blk := g2 ▸ K0.1
  have E2_o := E_o.ext x2
  have F2_block_o := F_block.ext x2
  have F2_algorithm_o := F_algorithm.ext x2
  have F2_digestLength_o := F_dl.ext x2
  have F2_lengthFieldBytes_o := F_lengthFieldBytes.ext x2
  have F2_schedule_o := F_schedule.ext x2
  have F2_initialState_o := F_initialState.ext x2
  have F2_state_o := F_state.ext x2
  have Z2 : n0 ≤ h2.size := Nat.le_trans Z0 x2.1
  have K2 : Keep h0 h2 [o] := K0.ext x2
  have V2_blk : Arv Z h2 blk k_blk .byte (128 : Int32) [] (.int 0) := Arv.new A2 (by decide)
  refine own_st st2 ?_
  show own_Go p e below _ T2 (mkF m 8 #[rv o, iv 128] [(.ref blk), (.ref o)])
  obtain ⟨T3, h3, X3, e3, W3, st3⟩ := putF X2 hx hZ hown (host := "") (Or.inl (hw _ (List.mem_of_getElem? (i := 47) rfl))) Via.refl e2 F2_block_o E2_o (Or.inr ⟨(hw _ (List.mem_of_getElem? (i := 48) rfl)), rfl, hnm⟩) (hw _ (List.mem_of_getElem? (i := 3) rfl)) (ty := .array .byte) (by decide) rfl rfl (g := (mkF m 8 #[rv o, iv 128] [(.ref blk), (.ref o)])) rfl rfl (hb hby own_de_8)
  have E3_o := E2_o.wr W3
  have F3_block_o := F2_block_o.same W3
  have F3_algorithm_o := F2_algorithm_o.other W3 (Or.inr (slot_ne (Or.inr (hw _ (List.mem_of_getElem? (i := 50) rfl))) (Or.inr (hw _ (List.mem_of_getElem? (i := 48) rfl))) (by decide) (t := .object "java/lang/String") (t' := .array .byte) (by decide) (by decide)))
  have F3_digestLength_o := F2_digestLength_o.other W3 (Or.inr (slot_ne (Or.inr (hw _ (List.mem_of_getElem? (i := 52) rfl))) (Or.inr (hw _ (List.mem_of_getElem? (i := 48) rfl))) (by decide) (t := .int) (t' := .array .byte) (by decide) (by decide)))
  have F3_lengthFieldBytes_o := F2_lengthFieldBytes_o.other W3 (Or.inr (slot_ne (Or.inr (hw _ (List.mem_of_getElem? (i := 54) rfl))) (Or.inr (hw _ (List.mem_of_getElem? (i := 48) rfl))) (by decide) (t := .int) (t' := .array .byte) (by decide) (by decide)))
  have F3_schedule_o := F2_schedule_o.other W3 (Or.inr (slot_ne (Or.inr (hw _ (List.mem_of_getElem? (i := 56) rfl))) (Or.inr (hw _ (List.mem_of_getElem? (i := 48) rfl))) (by decide) (t := .array .long) (t' := .array .byte) (by decide) (by decide)))
  have F3_initialState_o := F2_initialState_o.other W3 (Or.inr (slot_ne (Or.inr (hw _ (List.mem_of_getElem? (i := 58) rfl))) (Or.inr (hw _ (List.mem_of_getElem? (i := 48) rfl))) (by decide) (t := .array .long) (t' := .array .byte) (by decide) (by decide)))
  have F3_state_o := F2_state_o.other W3 (Or.inr (slot_ne (Or.inr (hw _ (List.mem_of_getElem? (i := 69) rfl))) (Or.inr (hw _ (List.mem_of_getElem? (i := 48) rfl))) (by decide) (t := .array .long) (t' := .array .byte) (by decide) (by decide)))
  have Z3 : n0 ≤ h3.size := by rw [W3.size]; exact Z2
  have K3 : Keep h0 h3 [o] := K2.wr W3 (Or.inl (List.mem_of_getElem? (i := 0) rfl))
  have N3 := Fr.snoc X3 N0 g_o
  refine own_st st3 ?_
  show own_Go p e below _ T3 (mkF m 11 #[rv o, iv 128] [])
  refine own_ret X3 hx Bd.notSynchronized Bd.returns (hb hby own_de_11) (by decide) (by decide) ?_
  rw [e3]
  exact ⟨rfl, N3, K3, F3_algorithm_o, F3_digestLength_o, F3_lengthFieldBytes_o, F3_schedule_o, F3_initialState_o, F3_state_o⟩
theorem own_ef_bd2 (m : MethodId) (x0 : Addr) (x1 : Addr) (x2 : Int32) (x3 : Int32) : entryFrame m #[(.ref x0), (.ref x1), (.int x2), (.int x3)] 4 = mkF m 0 #[.val (.ref x0), .val (.ref x1), .val (.int x2), .val (.int x3)] [] := by first | (simp [entryFrame, mkF, argsToLocals, Value.category]; done) | rfl
def own_Q_bd2 (Z : State) (o : Addr) (sn : Addr) (dg : Int32) (h0 : Heap) (n0 : Nat) (v : Option Value) (h : Heap) (L : List Loc) : Prop := v = none ∧ Fr n0 L ∧ Keep h0 h [o] ∧ Fld Z h o "com/example/hashwright/hashwright/LengthPaddedDigest" "lengthFieldBytes" "I" (.int (0 : Int32)) ∧ Fld Z h o "com/example/hashwright/hashwright/Sha512" "schedule" "[J" .null ∧ Fld Z h o "com/example/hashwright/hashwright/Sha512" "initialState" "[J" .null ∧ Fld Z h o "com/example/hashwright/hashwright/Sha512" "state" "[J" .null
set_option maxRecDepth 65536 in
set_option maxHeartbeats 40000000 in
theorem own_rm_bd2 (l : Launch) (Z : State) (a0 : Array Value) (hw : ∀ d ∈ tables_1, d.before a0 Z = true) (ws : List Jvm.Cond) (o : Addr) (sn : Addr) (dg : Int32) (h0 : Heap) (n0 : Nat) (Z0 : n0 ≤ h0.size) (E_o : Exa Z h0 o "com/example/hashwright/hashwright/Sha512") (g_o : n0 ≤ o) (F_block : Fld Z h0 o "com/example/hashwright/hashwright/BlockHasher" "block" "[B" .null) (F_algorithm : Fld Z h0 o "com/example/hashwright/hashwright/BlockDigest" "algorithm" "Ljava/lang/String;" .null) (F_dl : Fld Z h0 o "com/example/hashwright/hashwright/BlockDigest" "digestLength" "I" (.int (0 : Int32))) (F_lengthFieldBytes : Fld Z h0 o "com/example/hashwright/hashwright/LengthPaddedDigest" "lengthFieldBytes" "I" (.int (0 : Int32))) (F_schedule : Fld Z h0 o "com/example/hashwright/hashwright/Sha512" "schedule" "[J" .null) (F_initialState : Fld Z h0 o "com/example/hashwright/hashwright/Sha512" "initialState" "[J" .null) (F_state : Fld Z h0 o "com/example/hashwright/hashwright/Sha512" "state" "[J" .null) :
    MetFree l (⟨"com/example/hashwright/hashwright/BlockDigest", "<init>", "(Ljava/lang/String;II)V"⟩ : MethodName) (head1 (Jvm.Cond.code (⟨"com/example/hashwright/hashwright/BlockDigest", "<init>", "(Ljava/lang/String;II)V"⟩ : MethodName) prog_4_method_2_code 4 none :: ws) ({ frames := 2, cells := 1, slots := 128, locals := 25 } : Room)) (fun zz U => zz = #[(.ref o), (.ref sn), (.int dg), (.int (128 : Int32))] ∧ Z.Warmed39 U.vm ∧ U.heap = h0) (fun _ _ _ _ _ => True) (fun _ U zo U' => ∃ v L, zo = .returned v ∧ own_Q_bd2 Z o sn dg h0 n0 v U'.heap L ∧ FrameEnd U zo U' L ({ frames := 2, cells := 1, slots := 128, locals := 25 } : Room).cells ({ frames := 2, cells := 1, slots := 128, locals := 25 } : Room).slots) := by
  refine MetFree.of_bodySF (plainFor_of_name own_pn1) hisR ?_
  intro p e s m args below meth c s₁ Bd hml0 hP hK
  obtain ⟨rfl, hZ, hh⟩ := hP
  have hx := Bd.exec
  have hby := Bd.bytes
  have hml : c.maxLocals = 4 := hml0
  have hown : s.vm.findClass "com/example/hashwright/hashwright/BlockDigest" = some m.cls := findClass_of_methodNamed Bd.named
  have hnm := (name_of_methodNamed Bd.named Bd.method).1
  have X0 : Stand p l e ({ frames := 2, cells := 1, slots := 128, locals := 25 } : Room) s m #[(.ref o), (.ref sn), (.int dg), (.int (128 : Int32))] below meth c s₁ [] 0 0 := Stand.of_body Bd
  have e0 : s₁.heap = h0 := by rw [← hh, Bd.state]; rfl
  have N0 := Fr.nil n0
  show own_Go p e below (own_K s (own_Q_bd2 Z o sn dg h0 n0) ({ frames := 2, cells := 1, slots := 128, locals := 25 } : Room).cells ({ frames := 2, cells := 1, slots := 128, locals := 25 } : Room).slots) s₁ (entryFrame m #[(.ref o), (.ref sn), (.int dg), (.int (128 : Int32))] 4)
  rw [own_ef_bd2 m o sn dg (128 : Int32)]
  show own_Go p e below _ s₁ (mkF m 0 #[rv o, rv sn, iv dg, iv 128] [])
  have K0 : Keep h0 h0 [o] := Keep.refl _ _
  refine own_st (fun _ k => XS.aloadN X0.here hx rfl (hb hby own_dd_0) rfl rfl k) ?_
  show own_Go p e below _ s₁ (mkF m 1 #[rv o, rv sn, iv dg, iv 128] [(.ref o)])
  refine own_st (fun _ k => XS.iloadN X0.here hx rfl (hb hby own_dd_1) rfl k) ?_
  show own_Go p e below _ s₁ (mkF m 2 #[rv o, rv sn, iv dg, iv 128] [(.int 128), (.ref o)])
  obtain ⟨_, _, ⟨T1, L1, k1, n1⟩, -, X1, ⟨Lc1, hQ1, l1, y1, z1⟩, st1⟩ := X0.specialBack hx (y := (⟨"com/example/hashwright/hashwright/BlockHasher", "<init>", "(I)V"⟩ : MethodName)) rfl hown (mvT hZ (hw _ (List.mem_of_getElem? (i := 38) rfl))) (mvT hZ (hw _ (List.mem_of_getElem? (i := 39) rfl))) (mvT hZ (hw _ (List.mem_of_getElem? (i := 42) rfl))) (by decide) (backOf (W := 0) (own_rm_bh l Z a0 hw [] o h0 n0 Z0 E_o g_o F_block F_algorithm F_dl F_lengthFieldBytes F_schedule F_initialState F_state) hZ (hw _ (List.mem_of_getElem? (i := 42) rfl)) (hw _ (List.mem_of_getElem? (i := 41) rfl)) (by decide) (by decide)) (g := (mkF m 2 #[rv o, rv sn, iv dg, iv 128] [(.int 128), (.ref o)])) rfl (by rw [hml]; rfl) (Steps.refl _) (a := o) (argsL := [(.int (128 : Int32))]) (rest := []) (lenOf own_pd0 rfl) rfl (by show 2 * 0 + _ ≤ _; exact Nat.le_of_eq rfl) (hb hby own_dd_2) (fun _ _ => ⟨rfl, e0, (by decide : 0 + 1 ≤ _), (by decide : 0 + 128 ≤ _)⟩)
  dsimp only [Pt.U, Pt.locs, Pt.cells, Pt.slots] at X1 l1 y1 z1 st1 hQ1
  subst l1 y1 z1
  obtain ⟨rfl, N1, KC1, FC1_F_algorithm, FC1_F_dl, FC1_F_lengthFieldBytes, FC1_F_schedule, FC1_F_initialState, FC1_F_state⟩ := hQ1
  have M1 := Fr.app N0 N1
  refine own_tr st1 ?_
  show own_Go p e below _ T1 (mkF m 5 #[rv o, rv sn, iv dg, iv 128] [])
  have E1_o := E_o.keep KC1
  have Z1 : n0 ≤ T1.heap.size := Nat.le_trans Z0 KC1.1
  have KK1 : Keep h0 T1.heap [o] := K0.trans KC1 (allS (Or.inl (List.mem_of_getElem? (i := 0) rfl)) all0)
  refine own_st (fun _ k => XS.aloadN X1.here hx rfl (hb hby own_dd_5) rfl rfl k) ?_
  show own_Go p e below _ T1 (mkF m 6 #[rv o, rv sn, iv dg, iv 128] [(.ref o)])
  refine own_st (fun _ k => XS.aloadN X1.here hx rfl (hb hby own_dd_6) rfl rfl k) ?_
  show own_Go p e below _ T1 (mkF m 7 #[rv o, rv sn, iv dg, iv 128] [(.ref sn), (.ref o)])
  obtain ⟨T2, h2, X2, e2, W2, st2⟩ := putF X1 hx hZ hown (host := "") (Or.inl (hw _ (List.mem_of_getElem? (i := 49) rfl))) Via.refl rfl FC1_F_algorithm E1_o (Or.inr ⟨(hw _ (List.mem_of_getElem? (i := 50) rfl)), rfl, hnm⟩) (hw _ (List.mem_of_getElem? (i := 3) rfl)) (ty := .object "java/lang/String") (by decide) rfl rfl (g := (mkF m 7 #[rv o, rv sn, iv dg, iv 128] [(.ref sn), (.ref o)])) rfl rfl (hb hby own_dd_7)
  have E2_o := E1_o.wr W2
  have F2_algorithm_o := FC1_F_algorithm.same W2
  have F2_digestLength_o := FC1_F_dl.other W2 (Or.inr (slot_ne (Or.inr (hw _ (List.mem_of_getElem? (i := 52) rfl))) (Or.inr (hw _ (List.mem_of_getElem? (i := 50) rfl))) (by decide) (t := .int) (t' := .object "java/lang/String") (by decide) (by decide)))
  have F2_lengthFieldBytes_o := FC1_F_lengthFieldBytes.other W2 (Or.inr (slot_ne (Or.inr (hw _ (List.mem_of_getElem? (i := 54) rfl))) (Or.inr (hw _ (List.mem_of_getElem? (i := 50) rfl))) (by decide) (t := .int) (t' := .object "java/lang/String") (by decide) (by decide)))
  have F2_schedule_o := FC1_F_schedule.other W2 (Or.inr (slot_ne (Or.inr (hw _ (List.mem_of_getElem? (i := 56) rfl))) (Or.inr (hw _ (List.mem_of_getElem? (i := 50) rfl))) (by decide) (t := .array .long) (t' := .object "java/lang/String") (by decide) (by decide)))
  have F2_initialState_o := FC1_F_initialState.other W2 (Or.inr (slot_ne (Or.inr (hw _ (List.mem_of_getElem? (i := 58) rfl))) (Or.inr (hw _ (List.mem_of_getElem? (i := 50) rfl))) (by decide) (t := .array .long) (t' := .object "java/lang/String") (by decide) (by decide)))
  have F2_state_o := FC1_F_state.other W2 (Or.inr (slot_ne (Or.inr (hw _ (List.mem_of_getElem? (i := 69) rfl))) (Or.inr (hw _ (List.mem_of_getElem? (i := 50) rfl))) (by decide) (t := .array .long) (t' := .object "java/lang/String") (by decide) (by decide)))
  have Z2 : n0 ≤ h2.size := by rw [W2.size]; exact Z1
  have K2 : Keep h0 h2 [o] := KK1.wr W2 (Or.inl (List.mem_of_getElem? (i := 0) rfl))
  have N2 := Fr.snoc X2 M1 g_o
  refine own_st st2 ?_
  show own_Go p e below _ T2 (mkF m 10 #[rv o, rv sn, iv dg, iv 128] [])
  refine own_st (fun _ k => XS.aloadN X2.here hx rfl (hb hby own_dd_10) rfl rfl k) ?_
  show own_Go p e below _ T2 (mkF m 11 #[rv o, rv sn, iv dg, iv 128] [(.ref o)])
  refine own_st (fun _ k => XS.iloadN X2.here hx rfl (hb hby own_dd_11) rfl k) ?_
  show own_Go p e below _ T2 (mkF m 12 #[rv o, rv sn, iv dg, iv 128] [(.int dg), (.ref o)])
  obtain ⟨T3, h3, X3, e3, W3, st3⟩ := putF X2 hx hZ hown (host := "") (Or.inl (hw _ (List.mem_of_getElem? (i := 51) rfl))) Via.refl e2 F2_digestLength_o E2_o (Or.inr ⟨(hw _ (List.mem_of_getElem? (i := 52) rfl)), rfl, hnm⟩) (hw _ (List.mem_of_getElem? (i := 3) rfl)) (ty := .int) (by decide) rfl rfl (g := (mkF m 12 #[rv o, rv sn, iv dg, iv 128] [(.int dg), (.ref o)])) rfl rfl (hb hby own_dd_12)
  have E3_o := E2_o.wr W3
  have F3_algorithm_o := F2_algorithm_o.other W3 (Or.inr (slot_ne (Or.inr (hw _ (List.mem_of_getElem? (i := 50) rfl))) (Or.inr (hw _ (List.mem_of_getElem? (i := 52) rfl))) (by decide) (t := .object "java/lang/String") (t' := .int) (by decide) (by decide)))
  have F3_digestLength_o := F2_digestLength_o.same W3
  have F3_lengthFieldBytes_o := F2_lengthFieldBytes_o.other W3 (Or.inr (slot_ne (Or.inr (hw _ (List.mem_of_getElem? (i := 54) rfl))) (Or.inr (hw _ (List.mem_of_getElem? (i := 52) rfl))) (by decide) (t := .int) (t' := .int) (by decide) (by decide)))
  have F3_schedule_o := F2_schedule_o.other W3 (Or.inr (slot_ne (Or.inr (hw _ (List.mem_of_getElem? (i := 56) rfl))) (Or.inr (hw _ (List.mem_of_getElem? (i := 52) rfl))) (by decide) (t := .array .long) (t' := .int) (by decide) (by decide)))
  have F3_initialState_o := F2_initialState_o.other W3 (Or.inr (slot_ne (Or.inr (hw _ (List.mem_of_getElem? (i := 58) rfl))) (Or.inr (hw _ (List.mem_of_getElem? (i := 52) rfl))) (by decide) (t := .array .long) (t' := .int) (by decide) (by decide)))
  have F3_state_o := F2_state_o.other W3 (Or.inr (slot_ne (Or.inr (hw _ (List.mem_of_getElem? (i := 69) rfl))) (Or.inr (hw _ (List.mem_of_getElem? (i := 52) rfl))) (by decide) (t := .array .long) (t' := .int) (by decide) (by decide)))
  have Z3 : n0 ≤ h3.size := by rw [W3.size]; exact Z2
  have K3 : Keep h0 h3 [o] := K2.wr W3 (Or.inl (List.mem_of_getElem? (i := 0) rfl))
  have N3 := Fr.snoc X3 N2 g_o
  refine own_st st3 ?_
  show own_Go p e below _ T3 (mkF m 15 #[rv o, rv sn, iv dg, iv 128] [])
  refine own_ret X3 hx Bd.notSynchronized Bd.returns (hb hby own_dd_15) (by decide) (by decide) ?_
  rw [e3]
  exact ⟨rfl, N3, K3, F3_lengthFieldBytes_o, F3_schedule_o, F3_initialState_o, F3_state_o⟩
theorem own_ef_snm (m : MethodId) (x0 : Addr) : entryFrame m #[(.ref x0)] 1 = mkF m 0 #[.val (.ref x0)] [] := by first | (simp [entryFrame, mkF, argsToLocals, Value.category]; done) | rfl
def own_Q_snm (Z : State) (ag : Addr) (sn : Addr) (h0 : Heap) (n0 : Nat) (v : Option Value) (h : Heap) (L : List Loc) : Prop := v = some (.ref sn) ∧ Fr n0 L ∧ h = h0
set_option maxRecDepth 65536 in
set_option maxHeartbeats 40000000 in
theorem own_rm_snm (l : Launch) (Z : State) (a0 : Array Value) (hw : ∀ d ∈ tables_1, d.before a0 Z = true) (ws : List Jvm.Cond) (ag : Addr) (sn : Addr) (h0 : Heap) (n0 : Nat) (Z0 : n0 ≤ h0.size) (F_sn : Fld Z h0 ag "com/example/hashwright/hashwright/Algorithm" "standardName" "Ljava/lang/String;" (.ref sn)) :
    MetFree l (⟨"com/example/hashwright/hashwright/Algorithm", "standardName", "()Ljava/lang/String;"⟩ : MethodName) (head1 (Jvm.Cond.code (⟨"com/example/hashwright/hashwright/Algorithm", "standardName", "()Ljava/lang/String;"⟩ : MethodName) prog_1_method_7_code 1 (some (.object "java/lang/String")) :: ws) ({ frames := 0, cells := 0, slots := 0, locals := 0 } : Room)) (fun zz U => zz = #[(.ref ag)] ∧ Z.Warmed39 U.vm ∧ U.heap = h0) (fun _ _ _ _ _ => True) (fun _ U zo U' => ∃ v L, zo = .returned v ∧ own_Q_snm Z ag sn h0 n0 v U'.heap L ∧ FrameEnd U zo U' L ({ frames := 0, cells := 0, slots := 0, locals := 0 } : Room).cells ({ frames := 0, cells := 0, slots := 0, locals := 0 } : Room).slots) := by
  refine MetFree.of_bodySF (plainFor_of_name own_pn2) hisR ?_
  intro p e s m args below meth c s₁ Bd hml0 hP hK
  obtain ⟨rfl, hZ, hh⟩ := hP
  have hx := Bd.exec
  have hby := Bd.bytes
  have hml : c.maxLocals = 1 := hml0
  have hown : s.vm.findClass "com/example/hashwright/hashwright/Algorithm" = some m.cls := findClass_of_methodNamed Bd.named
  have hnm := (name_of_methodNamed Bd.named Bd.method).1
  have X0 : Stand p l e ({ frames := 0, cells := 0, slots := 0, locals := 0 } : Room) s m #[(.ref ag)] below meth c s₁ [] 0 0 := Stand.of_body Bd
  have e0 : s₁.heap = h0 := by rw [← hh, Bd.state]; rfl
  have N0 := Fr.nil n0
  show own_Go p e below (own_K s (own_Q_snm Z ag sn h0 n0) ({ frames := 0, cells := 0, slots := 0, locals := 0 } : Room).cells ({ frames := 0, cells := 0, slots := 0, locals := 0 } : Room).slots) s₁ (entryFrame m #[(.ref ag)] 1)
  rw [own_ef_snm m ag]
  show own_Go p e below _ s₁ (mkF m 0 #[rv ag] [])
  refine own_st (fun _ k => XS.aloadN X0.here hx rfl (hb hby own_df_0) rfl rfl k) ?_
  show own_Go p e below _ s₁ (mkF m 1 #[rv ag] [(.ref ag)])
  obtain ⟨T1, X1, e1, st1⟩ := getF X0 hx hZ hown (host := "") (Or.inl (hw _ (List.mem_of_getElem? (i := 26) rfl))) Via.refl e0 F_sn (g := (mkF m 1 #[rv ag] [(.ref ag)])) rfl rfl (hb hby own_df_1)
  refine own_st st1 ?_
  show own_Go p e below _ T1 (mkF m 4 #[rv ag] [(.ref sn)])
  refine own_retA X1 hx Bd.notSynchronized Bd.returns rfl rfl (hb hby own_df_4) (by decide) (by decide) ?_
  rw [e1]
  exact ⟨rfl, N0, rfl⟩
theorem own_ef_dln (m : MethodId) (x0 : Addr) : entryFrame m #[(.ref x0)] 1 = mkF m 0 #[.val (.ref x0)] [] := by first | (simp [entryFrame, mkF, argsToLocals, Value.category]; done) | rfl
def own_Q_dln (Z : State) (ag : Addr) (dg : Int32) (h0 : Heap) (n0 : Nat) (v : Option Value) (h : Heap) (L : List Loc) : Prop := v = some (.int dg) ∧ Fr n0 L ∧ h = h0
set_option maxRecDepth 65536 in
set_option maxHeartbeats 40000000 in
theorem own_rm_dln (l : Launch) (Z : State) (a0 : Array Value) (hw : ∀ d ∈ tables_1, d.before a0 Z = true) (ws : List Jvm.Cond) (ag : Addr) (dg : Int32) (h0 : Heap) (n0 : Nat) (Z0 : n0 ≤ h0.size) (F_dg : Fld Z h0 ag "com/example/hashwright/hashwright/Algorithm" "digestLength" "I" (.int dg)) :
    MetFree l (⟨"com/example/hashwright/hashwright/Algorithm", "digestLength", "()I"⟩ : MethodName) (head1 (Jvm.Cond.code (⟨"com/example/hashwright/hashwright/Algorithm", "digestLength", "()I"⟩ : MethodName) prog_1_method_10_code 1 (some .int) :: ws) ({ frames := 0, cells := 0, slots := 0, locals := 0 } : Room)) (fun zz U => zz = #[(.ref ag)] ∧ Z.Warmed39 U.vm ∧ U.heap = h0) (fun _ _ _ _ _ => True) (fun _ U zo U' => ∃ v L, zo = .returned v ∧ own_Q_dln Z ag dg h0 n0 v U'.heap L ∧ FrameEnd U zo U' L ({ frames := 0, cells := 0, slots := 0, locals := 0 } : Room).cells ({ frames := 0, cells := 0, slots := 0, locals := 0 } : Room).slots) := by
  refine MetFree.of_bodySF (plainFor_of_name own_pn2) hisR ?_
  intro p e s m args below meth c s₁ Bd hml0 hP hK
  obtain ⟨rfl, hZ, hh⟩ := hP
  have hx := Bd.exec
  have hby := Bd.bytes
  have hml : c.maxLocals = 1 := hml0
  have hown : s.vm.findClass "com/example/hashwright/hashwright/Algorithm" = some m.cls := findClass_of_methodNamed Bd.named
  have hnm := (name_of_methodNamed Bd.named Bd.method).1
  have X0 : Stand p l e ({ frames := 0, cells := 0, slots := 0, locals := 0 } : Room) s m #[(.ref ag)] below meth c s₁ [] 0 0 := Stand.of_body Bd
  have e0 : s₁.heap = h0 := by rw [← hh, Bd.state]; rfl
  have N0 := Fr.nil n0
  show own_Go p e below (own_K s (own_Q_dln Z ag dg h0 n0) ({ frames := 0, cells := 0, slots := 0, locals := 0 } : Room).cells ({ frames := 0, cells := 0, slots := 0, locals := 0 } : Room).slots) s₁ (entryFrame m #[(.ref ag)] 1)
  rw [own_ef_dln m ag]
  show own_Go p e below _ s₁ (mkF m 0 #[rv ag] [])
  refine own_st (fun _ k => XS.aloadN X0.here hx rfl (hb hby own_dg_0) rfl rfl k) ?_
  show own_Go p e below _ s₁ (mkF m 1 #[rv ag] [(.ref ag)])
  obtain ⟨T1, X1, e1, st1⟩ := getF X0 hx hZ hown (host := "") (Or.inl (hw _ (List.mem_of_getElem? (i := 33) rfl))) Via.refl e0 F_dg (g := (mkF m 1 #[rv ag] [(.ref ag)])) rfl rfl (hb hby own_dg_1)
  refine own_st st1 ?_
  show own_Go p e below _ T1 (mkF m 4 #[rv ag] [(.int dg)])
  refine own_retI X1 hx Bd.notSynchronized Bd.returns (hb hby own_dg_4) (by decide) (by decide) ?_
  rw [e1]
  exact ⟨rfl, N0, rfl⟩
theorem own_ef_bd1 (m : MethodId) (x0 : Addr) (x1 : Addr) (x2 : Int32) : entryFrame m #[(.ref x0), (.ref x1), (.int x2)] 3 = mkF m 0 #[.val (.ref x0), .val (.ref x1), .val (.int x2)] [] := by first | (simp [entryFrame, mkF, argsToLocals, Value.category]; done) | rfl
def own_Q_bd1 (Z : State) (o : Addr) (ag : Addr) (sn : Addr) (dg : Int32) (h0 : Heap) (n0 : Nat) (v : Option Value) (h : Heap) (L : List Loc) : Prop := v = none ∧ Fr n0 L ∧ Keep h0 h [o] ∧ Fld Z h o "com/example/hashwright/hashwright/LengthPaddedDigest" "lengthFieldBytes" "I" (.int (0 : Int32)) ∧ Fld Z h o "com/example/hashwright/hashwright/Sha512" "schedule" "[J" .null ∧ Fld Z h o "com/example/hashwright/hashwright/Sha512" "initialState" "[J" .null ∧ Fld Z h o "com/example/hashwright/hashwright/Sha512" "state" "[J" .null
set_option maxRecDepth 65536 in
set_option maxHeartbeats 40000000 in
theorem own_rm_bd1 (l : Launch) (Z : State) (a0 : Array Value) (hw : ∀ d ∈ tables_1, d.before a0 Z = true) (ws : List Jvm.Cond) (o : Addr) (ag : Addr) (sn : Addr) (dg : Int32) (h0 : Heap) (n0 : Nat) (Z0 : n0 ≤ h0.size) (E_o : Exa Z h0 o "com/example/hashwright/hashwright/Sha512") (g_o : n0 ≤ o) (F_block : Fld Z h0 o "com/example/hashwright/hashwright/BlockHasher" "block" "[B" .null) (F_algorithm : Fld Z h0 o "com/example/hashwright/hashwright/BlockDigest" "algorithm" "Ljava/lang/String;" .null) (F_dl : Fld Z h0 o "com/example/hashwright/hashwright/BlockDigest" "digestLength" "I" (.int (0 : Int32))) (F_lengthFieldBytes : Fld Z h0 o "com/example/hashwright/hashwright/LengthPaddedDigest" "lengthFieldBytes" "I" (.int (0 : Int32))) (F_schedule : Fld Z h0 o "com/example/hashwright/hashwright/Sha512" "schedule" "[J" .null) (F_initialState : Fld Z h0 o "com/example/hashwright/hashwright/Sha512" "initialState" "[J" .null) (F_state : Fld Z h0 o "com/example/hashwright/hashwright/Sha512" "state" "[J" .null) (E_ag : Exa Z h0 ag "com/example/hashwright/hashwright/Algorithm") (F_sn : Fld Z h0 ag "com/example/hashwright/hashwright/Algorithm" "standardName" "Ljava/lang/String;" (.ref sn)) (F_dg : Fld Z h0 ag "com/example/hashwright/hashwright/Algorithm" "digestLength" "I" (.int dg)) :
    MetFree l (⟨"com/example/hashwright/hashwright/BlockDigest", "<init>", "(Lcom/example/hashwright/hashwright/Algorithm;I)V"⟩ : MethodName) (head1 (Jvm.Cond.code (⟨"com/example/hashwright/hashwright/BlockDigest", "<init>", "(Lcom/example/hashwright/hashwright/Algorithm;I)V"⟩ : MethodName) prog_4_method_1_code 3 none :: ws) ({ frames := 3, cells := 1, slots := 128, locals := 40 } : Room)) (fun zz U => zz = #[(.ref o), (.ref ag), (.int (128 : Int32))] ∧ Z.Warmed39 U.vm ∧ U.heap = h0) (fun _ _ _ _ _ => True) (fun _ U zo U' => ∃ v L, zo = .returned v ∧ own_Q_bd1 Z o ag sn dg h0 n0 v U'.heap L ∧ FrameEnd U zo U' L ({ frames := 3, cells := 1, slots := 128, locals := 40 } : Room).cells ({ frames := 3, cells := 1, slots := 128, locals := 40 } : Room).slots) := by
  refine MetFree.of_bodySF (plainFor_of_name own_pn1) hisR ?_
  intro p e s m args below meth c s₁ Bd hml0 hP hK
  obtain ⟨rfl, hZ, hh⟩ := hP
  have hx := Bd.exec
  have hby := Bd.bytes
  have hml : c.maxLocals = 3 := hml0
  have hown : s.vm.findClass "com/example/hashwright/hashwright/BlockDigest" = some m.cls := findClass_of_methodNamed Bd.named
  have hnm := (name_of_methodNamed Bd.named Bd.method).1
  have X0 : Stand p l e ({ frames := 3, cells := 1, slots := 128, locals := 40 } : Room) s m #[(.ref o), (.ref ag), (.int (128 : Int32))] below meth c s₁ [] 0 0 := Stand.of_body Bd
  have e0 : s₁.heap = h0 := by rw [← hh, Bd.state]; rfl
  have N0 := Fr.nil n0
  show own_Go p e below (own_K s (own_Q_bd1 Z o ag sn dg h0 n0) ({ frames := 3, cells := 1, slots := 128, locals := 40 } : Room).cells ({ frames := 3, cells := 1, slots := 128, locals := 40 } : Room).slots) s₁ (entryFrame m #[(.ref o), (.ref ag), (.int (128 : Int32))] 3)
  rw [own_ef_bd1 m o ag (128 : Int32)]
  show own_Go p e below _ s₁ (mkF m 0 #[rv o, rv ag, iv 128] [])
  have K0 : Keep h0 h0 [o] := Keep.refl _ _
  refine own_st (fun _ k => XS.aloadN X0.here hx rfl (hb hby own_dc_0) rfl rfl k) ?_
  show own_Go p e below _ s₁ (mkF m 1 #[rv o, rv ag, iv 128] [(.ref o)])
  refine own_st (fun _ k => XS.aloadN X0.here hx rfl (hb hby own_dc_1) rfl rfl k) ?_
  show own_Go p e below _ s₁ (mkF m 2 #[rv o, rv ag, iv 128] [(.ref ag), (.ref o)])
  obtain ⟨cq1, kq1, q1a, q1b, q1c⟩ := isOf hZ e0 E_ag
  obtain ⟨_, _, ⟨T1, L1, k1, n1⟩, -, X1, ⟨Lc1, hQ1, l1, y1, z1⟩, st1⟩ := X0.virtualBack hx (y := (⟨"com/example/hashwright/hashwright/Algorithm", "standardName", "()Ljava/lang/String;"⟩ : MethodName)) (z := (⟨"com/example/hashwright/hashwright/Algorithm", "standardName", "()Ljava/lang/String;"⟩ : MethodName)) hown (mvT hZ (hw _ (List.mem_of_getElem? (i := 21) rfl))) (mvT hZ (hw _ (List.mem_of_getElem? (i := 22) rfl))) (notFace_of_selects (args := #[]) (mvT hZ (hw _ (List.mem_of_getElem? (i := 24) rfl)))) (mvT hZ (hw _ (List.mem_of_getElem? (i := 24) rfl))) (mvT hZ (hw _ (List.mem_of_getElem? (i := 23) rfl))) (by decide) (backOf (W := 1) (own_rm_snm l Z a0 hw [] ag sn h0 n0 Z0 F_sn) hZ (hw _ (List.mem_of_getElem? (i := 25) rfl)) (hw _ (List.mem_of_getElem? (i := 6) rfl)) (by decide) (by decide)) q1a q1c (g := (mkF m 2 #[rv o, rv ag, iv 128] [(.ref ag), (.ref o)])) rfl (by rw [hml]; rfl) (Steps.refl _) (argsL := []) (rest := [(.ref o)]) (lenOf own_pd1 rfl) rfl (by show 2 * 0 + _ ≤ _; exact Nat.le_of_eq rfl) (hb hby own_dc_2) (fun _ _ => ⟨rfl, e0, (by decide : 0 + 0 ≤ _), (by decide : 0 + 0 ≤ _)⟩)
  dsimp only [Pt.U, Pt.locs, Pt.cells, Pt.slots] at X1 l1 y1 z1 st1 hQ1
  subst l1 y1 z1
  obtain ⟨rfl, N1, eh1⟩ := hQ1
  have M1 := Fr.app N0 N1
  refine own_tr st1 ?_
  show own_Go p e below _ T1 (mkF m 5 #[rv o, rv ag, iv 128] [(.ref sn), (.ref o)])
  refine own_st (fun _ k => XS.aloadN X1.here hx rfl (hb hby own_dc_5) rfl rfl k) ?_
  show own_Go p e below _ T1 (mkF m 6 #[rv o, rv ag, iv 128] [(.ref ag), (.ref sn), (.ref o)])
  obtain ⟨cq2, kq2, q2a, q2b, q2c⟩ := isOf hZ eh1 E_ag
  obtain ⟨_, _, ⟨T2, L2, k2, n2⟩, -, X2, ⟨Lc2, hQ2, l2, y2, z2⟩, st2⟩ := X1.virtualBack hx (y := (⟨"com/example/hashwright/hashwright/Algorithm", "digestLength", "()I"⟩ : MethodName)) (z := (⟨"com/example/hashwright/hashwright/Algorithm", "digestLength", "()I"⟩ : MethodName)) hown (mvT hZ (hw _ (List.mem_of_getElem? (i := 28) rfl))) (mvT hZ (hw _ (List.mem_of_getElem? (i := 29) rfl))) (notFace_of_selects (args := #[]) (mvT hZ (hw _ (List.mem_of_getElem? (i := 31) rfl)))) (mvT hZ (hw _ (List.mem_of_getElem? (i := 31) rfl))) (mvT hZ (hw _ (List.mem_of_getElem? (i := 30) rfl))) (by decide) (backOf (W := 2) (own_rm_dln l Z a0 hw [] ag dg h0 n0 Z0 F_dg) hZ (hw _ (List.mem_of_getElem? (i := 32) rfl)) (hw _ (List.mem_of_getElem? (i := 6) rfl)) (by decide) (by decide)) q2a q2c (g := (mkF m 6 #[rv o, rv ag, iv 128] [(.ref ag), (.ref sn), (.ref o)])) rfl (by rw [hml]; rfl) (Steps.refl _) (argsL := []) (rest := [(.ref sn), (.ref o)]) (lenOf own_pd2 rfl) rfl (by show 2 * 0 + _ ≤ _; exact Nat.le_of_eq rfl) (hb hby own_dc_6) (fun _ _ => ⟨rfl, eh1, (by decide : 0 + 0 ≤ _), (by decide : 0 + 0 ≤ _)⟩)
  dsimp only [Pt.U, Pt.locs, Pt.cells, Pt.slots] at X2 l2 y2 z2 st2 hQ2
  subst l2 y2 z2
  obtain ⟨rfl, N2, eh2⟩ := hQ2
  have M2 := Fr.app M1 N2
  refine own_tr st2 ?_
  show own_Go p e below _ T2 (mkF m 9 #[rv o, rv ag, iv 128] [(.int dg), (.ref sn), (.ref o)])
  refine own_st (fun _ k => XS.iloadN X2.here hx rfl (hb hby own_dc_9) rfl k) ?_
  show own_Go p e below _ T2 (mkF m 10 #[rv o, rv ag, iv 128] [(.int 128), (.int dg), (.ref sn), (.ref o)])
  obtain ⟨_, _, ⟨T3, L3, k3, n3⟩, -, X3, ⟨Lc3, hQ3, l3, y3, z3⟩, st3⟩ := X2.specialBack hx (y := (⟨"com/example/hashwright/hashwright/BlockDigest", "<init>", "(Ljava/lang/String;II)V"⟩ : MethodName)) rfl hown (mvT hZ (hw _ (List.mem_of_getElem? (i := 35) rfl))) (mvT hZ (hw _ (List.mem_of_getElem? (i := 36) rfl))) (mvT hZ (hw _ (List.mem_of_getElem? (i := 37) rfl))) (by decide) (backOf (W := 0) (own_rm_bd2 l Z a0 hw [] o sn dg h0 n0 Z0 E_o g_o F_block F_algorithm F_dl F_lengthFieldBytes F_schedule F_initialState F_state) hZ (hw _ (List.mem_of_getElem? (i := 37) rfl)) (hw _ (List.mem_of_getElem? (i := 19) rfl)) (by decide) (by decide)) (g := (mkF m 10 #[rv o, rv ag, iv 128] [(.int 128), (.int dg), (.ref sn), (.ref o)])) rfl (by rw [hml]; rfl) (Steps.refl _) (a := o) (argsL := [(.ref sn), (.int dg), (.int (128 : Int32))]) (rest := []) (lenOf own_pd3 rfl) rfl (by show 2 * 0 + _ ≤ _; exact Nat.le_of_eq rfl) (hb hby own_dc_10) (fun _ _ => ⟨rfl, eh2, (by decide : 0 + 1 ≤ _), (by decide : 0 + 128 ≤ _)⟩)
  dsimp only [Pt.U, Pt.locs, Pt.cells, Pt.slots] at X3 l3 y3 z3 st3 hQ3
  subst l3 y3 z3
  obtain ⟨rfl, N3, KC3, FC3_F_lengthFieldBytes, FC3_F_schedule, FC3_F_initialState, FC3_F_state⟩ := hQ3
  have M3 := Fr.app M2 N3
  refine own_tr st3 ?_
  show own_Go p e below _ T3 (mkF m 13 #[rv o, rv ag, iv 128] [])
  have E3_o := E_o.keep KC3
  have Z3 : n0 ≤ T3.heap.size := Nat.le_trans Z0 KC3.1
  have KK3 : Keep h0 T3.heap [o] := K0.trans KC3 (allS (Or.inl (List.mem_of_getElem? (i := 0) rfl)) all0)
  refine own_ret X3 hx Bd.notSynchronized Bd.returns (hb hby own_dc_13) (by decide) (by decide) ?_
  exact ⟨rfl, M3, KK3, FC3_F_lengthFieldBytes, FC3_F_schedule, FC3_F_initialState, FC3_F_state⟩
theorem own_ef_lp (m : MethodId) (x0 : Addr) (x1 : Addr) (x2 : Int32) (x3 : Int32) : entryFrame m #[(.ref x0), (.ref x1), (.int x2), (.int x3)] 4 = mkF m 0 #[.val (.ref x0), .val (.ref x1), .val (.int x2), .val (.int x3)] [] := by first | (simp [entryFrame, mkF, argsToLocals, Value.category]; done) | rfl
def own_Q_lp (Z : State) (o : Addr) (ag : Addr) (sn : Addr) (dg : Int32) (h0 : Heap) (n0 : Nat) (v : Option Value) (h : Heap) (L : List Loc) : Prop := v = none ∧ Fr n0 L ∧ Keep h0 h [o] ∧ Fld Z h o "com/example/hashwright/hashwright/Sha512" "schedule" "[J" .null ∧ Fld Z h o "com/example/hashwright/hashwright/Sha512" "initialState" "[J" .null ∧ Fld Z h o "com/example/hashwright/hashwright/Sha512" "state" "[J" .null
set_option maxRecDepth 65536 in
set_option maxHeartbeats 40000000 in
theorem own_rm_lp (l : Launch) (Z : State) (a0 : Array Value) (hw : ∀ d ∈ tables_1, d.before a0 Z = true) (ws : List Jvm.Cond) (o : Addr) (ag : Addr) (sn : Addr) (dg : Int32) (h0 : Heap) (n0 : Nat) (Z0 : n0 ≤ h0.size) (E_o : Exa Z h0 o "com/example/hashwright/hashwright/Sha512") (g_o : n0 ≤ o) (F_block : Fld Z h0 o "com/example/hashwright/hashwright/BlockHasher" "block" "[B" .null) (F_algorithm : Fld Z h0 o "com/example/hashwright/hashwright/BlockDigest" "algorithm" "Ljava/lang/String;" .null) (F_dl : Fld Z h0 o "com/example/hashwright/hashwright/BlockDigest" "digestLength" "I" (.int (0 : Int32))) (F_lengthFieldBytes : Fld Z h0 o "com/example/hashwright/hashwright/LengthPaddedDigest" "lengthFieldBytes" "I" (.int (0 : Int32))) (F_schedule : Fld Z h0 o "com/example/hashwright/hashwright/Sha512" "schedule" "[J" .null) (F_initialState : Fld Z h0 o "com/example/hashwright/hashwright/Sha512" "initialState" "[J" .null) (F_state : Fld Z h0 o "com/example/hashwright/hashwright/Sha512" "state" "[J" .null) (E_ag : Exa Z h0 ag "com/example/hashwright/hashwright/Algorithm") (F_sn : Fld Z h0 ag "com/example/hashwright/hashwright/Algorithm" "standardName" "Ljava/lang/String;" (.ref sn)) (F_dg : Fld Z h0 ag "com/example/hashwright/hashwright/Algorithm" "digestLength" "I" (.int dg)) :
    MetFree l (⟨"com/example/hashwright/hashwright/LengthPaddedDigest", "<init>", "(Lcom/example/hashwright/hashwright/Algorithm;II)V"⟩ : MethodName) (head1 (Jvm.Cond.code (⟨"com/example/hashwright/hashwright/LengthPaddedDigest", "<init>", "(Lcom/example/hashwright/hashwright/Algorithm;II)V"⟩ : MethodName) prog_13_method_1_code 4 none :: ws) ({ frames := 4, cells := 1, slots := 128, locals := 54 } : Room)) (fun zz U => zz = #[(.ref o), (.ref ag), (.int (128 : Int32)), (.int (16 : Int32))] ∧ Z.Warmed39 U.vm ∧ U.heap = h0) (fun _ _ _ _ _ => True) (fun _ U zo U' => ∃ v L, zo = .returned v ∧ own_Q_lp Z o ag sn dg h0 n0 v U'.heap L ∧ FrameEnd U zo U' L ({ frames := 4, cells := 1, slots := 128, locals := 54 } : Room).cells ({ frames := 4, cells := 1, slots := 128, locals := 54 } : Room).slots) := by
  refine MetFree.of_bodySF (plainFor_of_name own_pn3) hisR ?_
  intro p e s m args below meth c s₁ Bd hml0 hP hK
  obtain ⟨rfl, hZ, hh⟩ := hP
  have hx := Bd.exec
  have hby := Bd.bytes
  have hml : c.maxLocals = 4 := hml0
  have hown : s.vm.findClass "com/example/hashwright/hashwright/LengthPaddedDigest" = some m.cls := findClass_of_methodNamed Bd.named
  have hnm := (name_of_methodNamed Bd.named Bd.method).1
  have X0 : Stand p l e ({ frames := 4, cells := 1, slots := 128, locals := 54 } : Room) s m #[(.ref o), (.ref ag), (.int (128 : Int32)), (.int (16 : Int32))] below meth c s₁ [] 0 0 := Stand.of_body Bd
  have e0 : s₁.heap = h0 := by rw [← hh, Bd.state]; rfl
  have N0 := Fr.nil n0
  show own_Go p e below (own_K s (own_Q_lp Z o ag sn dg h0 n0) ({ frames := 4, cells := 1, slots := 128, locals := 54 } : Room).cells ({ frames := 4, cells := 1, slots := 128, locals := 54 } : Room).slots) s₁ (entryFrame m #[(.ref o), (.ref ag), (.int (128 : Int32)), (.int (16 : Int32))] 4)
  rw [own_ef_lp m o ag (128 : Int32) (16 : Int32)]
  show own_Go p e below _ s₁ (mkF m 0 #[rv o, rv ag, iv 128, iv 16] [])
  have K0 : Keep h0 h0 [o] := Keep.refl _ _
  refine own_st (fun _ k => XS.aloadN X0.here hx rfl (hb hby own_db_0) rfl rfl k) ?_
  show own_Go p e below _ s₁ (mkF m 1 #[rv o, rv ag, iv 128, iv 16] [(.ref o)])
  refine own_st (fun _ k => XS.aloadN X0.here hx rfl (hb hby own_db_1) rfl rfl k) ?_
  show own_Go p e below _ s₁ (mkF m 2 #[rv o, rv ag, iv 128, iv 16] [(.ref ag), (.ref o)])
  refine own_st (fun _ k => XS.iloadN X0.here hx rfl (hb hby own_db_2) rfl k) ?_
  show own_Go p e below _ s₁ (mkF m 3 #[rv o, rv ag, iv 128, iv 16] [(.int 128), (.ref ag), (.ref o)])
  obtain ⟨_, _, ⟨T1, L1, k1, n1⟩, -, X1, ⟨Lc1, hQ1, l1, y1, z1⟩, st1⟩ := X0.specialBack hx (y := (⟨"com/example/hashwright/hashwright/BlockDigest", "<init>", "(Lcom/example/hashwright/hashwright/Algorithm;I)V"⟩ : MethodName)) rfl hown (mvT hZ (hw _ (List.mem_of_getElem? (i := 16) rfl))) (mvT hZ (hw _ (List.mem_of_getElem? (i := 17) rfl))) (mvT hZ (hw _ (List.mem_of_getElem? (i := 20) rfl))) (by decide) (backOf (W := 0) (own_rm_bd1 l Z a0 hw [] o ag sn dg h0 n0 Z0 E_o g_o F_block F_algorithm F_dl F_lengthFieldBytes F_schedule F_initialState F_state E_ag F_sn F_dg) hZ (hw _ (List.mem_of_getElem? (i := 20) rfl)) (hw _ (List.mem_of_getElem? (i := 19) rfl)) (by decide) (by decide)) (g := (mkF m 3 #[rv o, rv ag, iv 128, iv 16] [(.int 128), (.ref ag), (.ref o)])) rfl (by rw [hml]; rfl) (Steps.refl _) (a := o) (argsL := [(.ref ag), (.int (128 : Int32))]) (rest := []) (lenOf own_pd4 rfl) rfl (by show 2 * 0 + _ ≤ _; exact Nat.le_of_eq rfl) (hb hby own_db_3) (fun _ _ => ⟨rfl, e0, (by decide : 0 + 1 ≤ _), (by decide : 0 + 128 ≤ _)⟩)
  dsimp only [Pt.U, Pt.locs, Pt.cells, Pt.slots] at X1 l1 y1 z1 st1 hQ1
  subst l1 y1 z1
  obtain ⟨rfl, N1, KC1, FC1_F_lengthFieldBytes, FC1_F_schedule, FC1_F_initialState, FC1_F_state⟩ := hQ1
  have M1 := Fr.app N0 N1
  refine own_tr st1 ?_
  show own_Go p e below _ T1 (mkF m 6 #[rv o, rv ag, iv 128, iv 16] [])
  have E1_o := E_o.keep KC1
  have Z1 : n0 ≤ T1.heap.size := Nat.le_trans Z0 KC1.1
  have KK1 : Keep h0 T1.heap [o] := K0.trans KC1 (allS (Or.inl (List.mem_of_getElem? (i := 0) rfl)) all0)
  refine own_st (fun _ k => XS.aloadN X1.here hx rfl (hb hby own_db_6) rfl rfl k) ?_
  show own_Go p e below _ T1 (mkF m 7 #[rv o, rv ag, iv 128, iv 16] [(.ref o)])
  refine own_st (fun _ k => XS.iloadN X1.here hx rfl (hb hby own_db_7) rfl k) ?_
  show own_Go p e below _ T1 (mkF m 8 #[rv o, rv ag, iv 128, iv 16] [(.int 16), (.ref o)])
  obtain ⟨T2, h2, X2, e2, W2, st2⟩ := putF X1 hx hZ hown (host := "") (Or.inl (hw _ (List.mem_of_getElem? (i := 53) rfl))) Via.refl rfl FC1_F_lengthFieldBytes E1_o (Or.inr ⟨(hw _ (List.mem_of_getElem? (i := 54) rfl)), rfl, hnm⟩) (hw _ (List.mem_of_getElem? (i := 3) rfl)) (ty := .int) (by decide) rfl rfl (g := (mkF m 8 #[rv o, rv ag, iv 128, iv 16] [(.int 16), (.ref o)])) rfl rfl (hb hby own_db_8)
  have E2_o := E1_o.wr W2
  have F2_lengthFieldBytes_o := FC1_F_lengthFieldBytes.same W2
  have F2_schedule_o := FC1_F_schedule.other W2 (Or.inr (slot_ne (Or.inr (hw _ (List.mem_of_getElem? (i := 56) rfl))) (Or.inr (hw _ (List.mem_of_getElem? (i := 54) rfl))) (by decide) (t := .array .long) (t' := .int) (by decide) (by decide)))
  have F2_initialState_o := FC1_F_initialState.other W2 (Or.inr (slot_ne (Or.inr (hw _ (List.mem_of_getElem? (i := 58) rfl))) (Or.inr (hw _ (List.mem_of_getElem? (i := 54) rfl))) (by decide) (t := .array .long) (t' := .int) (by decide) (by decide)))
  have F2_state_o := FC1_F_state.other W2 (Or.inr (slot_ne (Or.inr (hw _ (List.mem_of_getElem? (i := 69) rfl))) (Or.inr (hw _ (List.mem_of_getElem? (i := 54) rfl))) (by decide) (t := .array .long) (t' := .int) (by decide) (by decide)))
  have Z2 : n0 ≤ h2.size := by rw [W2.size]; exact Z1
  have K2 : Keep h0 h2 [o] := KK1.wr W2 (Or.inl (List.mem_of_getElem? (i := 0) rfl))
  have N2 := Fr.snoc X2 M1 g_o
  refine own_st st2 ?_
  show own_Go p e below _ T2 (mkF m 11 #[rv o, rv ag, iv 128, iv 16] [])
  refine own_ret X2 hx Bd.notSynchronized Bd.returns (hb hby own_db_11) (by decide) (by decide) ?_
  rw [e2]
  exact ⟨rfl, N2, K2, F2_schedule_o, F2_initialState_o, F2_state_o⟩
theorem own_ef_sh (m : MethodId) (x0 : Addr) (x1 : Addr) (x2 : Addr) : entryFrame m #[(.ref x0), (.ref x1), (.ref x2)] 3 = mkF m 0 #[.val (.ref x0), .val (.ref x1), .val (.ref x2)] [] := by first | (simp [entryFrame, mkF, argsToLocals, Value.category]; done) | rfl
def own_Q_sh (Z : State) (o : Addr) (ag : Addr) (sn : Addr) (dg : Int32) (r : Addr) (kr : ClassId) (sv : List Int64) (h0 : Heap) (n0 : Nat) (v : Option Value) (h : Heap) (L : List Loc) : Prop := ∃ st, v = none ∧ Fr n0 L ∧ Keep h0 h [o] ∧ Fld Z h o "com/example/hashwright/hashwright/Sha512" "state" "[J" (.ref st) ∧ Arv Z h st kr .long (8 : Int32) (sv.map Value.long) (.long 0) ∧ h0.size ≤ st
set_option maxRecDepth 65536 in
set_option maxHeartbeats 40000000 in
theorem own_rm_sh (l : Launch) (Z : State) (a0 : Array Value) (hw : ∀ d ∈ tables_1, d.before a0 Z = true) (ws : List Jvm.Cond) (o : Addr) (ag : Addr) (sn : Addr) (dg : Int32) (r : Addr) (kr : ClassId) (sv : List Int64) (h0 : Heap) (n0 : Nat) (Z0 : n0 ≤ h0.size) (E_o : Exa Z h0 o "com/example/hashwright/hashwright/Sha512") (g_o : n0 ≤ o) (F_block : Fld Z h0 o "com/example/hashwright/hashwright/BlockHasher" "block" "[B" .null) (F_algorithm : Fld Z h0 o "com/example/hashwright/hashwright/BlockDigest" "algorithm" "Ljava/lang/String;" .null) (F_dl : Fld Z h0 o "com/example/hashwright/hashwright/BlockDigest" "digestLength" "I" (.int (0 : Int32))) (F_lengthFieldBytes : Fld Z h0 o "com/example/hashwright/hashwright/LengthPaddedDigest" "lengthFieldBytes" "I" (.int (0 : Int32))) (F_schedule : Fld Z h0 o "com/example/hashwright/hashwright/Sha512" "schedule" "[J" .null) (F_initialState : Fld Z h0 o "com/example/hashwright/hashwright/Sha512" "initialState" "[J" .null) (F_state : Fld Z h0 o "com/example/hashwright/hashwright/Sha512" "state" "[J" .null) (E_ag : Exa Z h0 ag "com/example/hashwright/hashwright/Algorithm") (F_sn : Fld Z h0 ag "com/example/hashwright/hashwright/Algorithm" "standardName" "Ljava/lang/String;" (.ref sn)) (F_dg : Fld Z h0 ag "com/example/hashwright/hashwright/Algorithm" "digestLength" "I" (.int dg)) (E_r : Exa Z h0 r "[J") (V_r : Arv Z h0 r kr .long (8 : Int32) (sv.map Value.long) (.long 0)) (ne_r_o : r ≠ o) :
    MetFree l (⟨"com/example/hashwright/hashwright/Sha512", "<init>", "(Lcom/example/hashwright/hashwright/Algorithm;[J)V"⟩ : MethodName) (head1 (Jvm.Cond.code (⟨"com/example/hashwright/hashwright/Sha512", "<init>", "(Lcom/example/hashwright/hashwright/Algorithm;[J)V"⟩ : MethodName) prog_16_method_1_code 3 none :: ws) ({ frames := 5, cells := 3, slots := 216, locals := 69 } : Room)) (fun zz U => zz = #[(.ref o), (.ref ag), (.ref r)] ∧ Z.Warmed39 U.vm ∧ U.heap = h0) (fun _ _ _ _ _ => True) (fun _ U zo U' => ∃ v L, zo = .returned v ∧ own_Q_sh Z o ag sn dg r kr sv h0 n0 v U'.heap L ∧ FrameEnd U zo U' L ({ frames := 5, cells := 3, slots := 216, locals := 69 } : Room).cells ({ frames := 5, cells := 3, slots := 216, locals := 69 } : Room).slots) := by
  refine MetFree.of_bodySF (plainFor_of_name own_pn4) hisR ?_
  intro p e s m args below meth c s₁ Bd hml0 hP hK
  obtain ⟨rfl, hZ, hh⟩ := hP
  have hx := Bd.exec
  have hby := Bd.bytes
  have hml : c.maxLocals = 3 := hml0
  have hown : s.vm.findClass "com/example/hashwright/hashwright/Sha512" = some m.cls := findClass_of_methodNamed Bd.named
  have hnm := (name_of_methodNamed Bd.named Bd.method).1
  have X0 : Stand p l e ({ frames := 5, cells := 3, slots := 216, locals := 69 } : Room) s m #[(.ref o), (.ref ag), (.ref r)] below meth c s₁ [] 0 0 := Stand.of_body Bd
  have e0 : s₁.heap = h0 := by rw [← hh, Bd.state]; rfl
  have N0 := Fr.nil n0
  show own_Go p e below (own_K s (own_Q_sh Z o ag sn dg r kr sv h0 n0) ({ frames := 5, cells := 3, slots := 216, locals := 69 } : Room).cells ({ frames := 5, cells := 3, slots := 216, locals := 69 } : Room).slots) s₁ (entryFrame m #[(.ref o), (.ref ag), (.ref r)] 3)
  rw [own_ef_sh m o ag r]
  show own_Go p e below _ s₁ (mkF m 0 #[rv o, rv ag, rv r] [])
  have K0 : Keep h0 h0 [o] := Keep.refl _ _
  refine own_st (fun _ k => XS.aloadN X0.here hx rfl (hb hby own_da_0) rfl rfl k) ?_
  show own_Go p e below _ s₁ (mkF m 1 #[rv o, rv ag, rv r] [(.ref o)])
  refine own_st (fun _ k => XS.aloadN X0.here hx rfl (hb hby own_da_1) rfl rfl k) ?_
  show own_Go p e below _ s₁ (mkF m 2 #[rv o, rv ag, rv r] [(.ref ag), (.ref o)])
  refine own_st (fun _ k => XT.sipushV X0.here hx rfl (128 : Int32) (hb hby own_da_2) (by decide) k) ?_
  show own_Go p e below _ s₁ (mkF m 5 #[rv o, rv ag, rv r] [(.int 128), (.ref ag), (.ref o)])
  refine own_st (fun _ k => XT.bipushV X0.here hx rfl (16 : Int32) (hb hby own_da_5) (by decide) k) ?_
  show own_Go p e below _ s₁ (mkF m 7 #[rv o, rv ag, rv r] [(.int 16), (.int 128), (.ref ag), (.ref o)])
  obtain ⟨_, _, ⟨T1, L1, k1, n1⟩, -, X1, ⟨Lc1, hQ1, l1, y1, z1⟩, st1⟩ := X0.specialBack hx (y := (⟨"com/example/hashwright/hashwright/LengthPaddedDigest", "<init>", "(Lcom/example/hashwright/hashwright/Algorithm;II)V"⟩ : MethodName)) rfl hown (mvT hZ (hw _ (List.mem_of_getElem? (i := 11) rfl))) (mvT hZ (hw _ (List.mem_of_getElem? (i := 12) rfl))) (mvT hZ (hw _ (List.mem_of_getElem? (i := 15) rfl))) (by decide) (backOf (W := 0) (own_rm_lp l Z a0 hw [] o ag sn dg h0 n0 Z0 E_o g_o F_block F_algorithm F_dl F_lengthFieldBytes F_schedule F_initialState F_state E_ag F_sn F_dg) hZ (hw _ (List.mem_of_getElem? (i := 15) rfl)) (hw _ (List.mem_of_getElem? (i := 14) rfl)) (by decide) (by decide)) (g := (mkF m 7 #[rv o, rv ag, rv r] [(.int 16), (.int 128), (.ref ag), (.ref o)])) rfl (by rw [hml]; rfl) (Steps.refl _) (a := o) (argsL := [(.ref ag), (.int (128 : Int32)), (.int (16 : Int32))]) (rest := []) (lenOf own_pd5 rfl) rfl (by show 2 * 0 + _ ≤ _; exact Nat.le_of_eq rfl) (hb hby own_da_7) (fun _ _ => ⟨rfl, e0, (by decide : 0 + 1 ≤ _), (by decide : 0 + 128 ≤ _)⟩)
  dsimp only [Pt.U, Pt.locs, Pt.cells, Pt.slots] at X1 l1 y1 z1 st1 hQ1
  subst l1 y1 z1
  obtain ⟨rfl, N1, KC1, FC1_F_schedule, FC1_F_initialState, FC1_F_state⟩ := hQ1
  have M1 := Fr.app N0 N1
  refine own_tr st1 ?_
  show own_Go p e below _ T1 (mkF m 10 #[rv o, rv ag, rv r] [])
  have V1_r := V_r.keep KC1 (ninS ne_r_o nin0)
  have E1_o := E_o.keep KC1
  have E1_r := E_r.keep KC1
  have Z1 : n0 ≤ T1.heap.size := Nat.le_trans Z0 KC1.1
  have KK1 : Keep h0 T1.heap [o] := K0.trans KC1 (allS (Or.inl (List.mem_of_getElem? (i := 0) rfl)) all0)
  refine own_st (fun _ k => XS.aloadN X1.here hx rfl (hb hby own_da_10) rfl rfl k) ?_
  show own_Go p e below _ T1 (mkF m 11 #[rv o, rv ag, rv r] [(.ref o)])
  refine own_st (fun _ k => XT.bipushV X1.here hx rfl (80 : Int32) (hb hby own_da_11) (by decide) k) ?_
  show own_Go p e below _ T1 (mkF m 13 #[rv o, rv ag, rv r] [(.int 80), (.ref o)])
  obtain ⟨T2, h2, k_sch, X2, e2, x2, A2, st2⟩ := newP X1 hx hZ (hw _ (List.mem_of_getElem? (i := 0) rfl)) rfl (g := (mkF m 13 #[rv o, rv ag, rv r] [(.int 80), (.ref o)])) rfl (hb hby own_da_13) rfl (by decide) (cap := 80) (by decide) (by decide) (by decide) (by decide)
  obtain ⟨sch, g2⟩ : ∃ z, z = T1.heap.size := ⟨_, rfl⟩
  rw [← g2] at A2 st2
  have ne_r_sch : r ≠ sch := g2 ▸ Nat.ne_of_lt V1_r.lt
  have ne_o_sch : o ≠ sch := g2 ▸ Nat.ne_of_lt E1_o.lt
  have g_sch : n0 ≤ sch := g2 ▸ Z1
  have sz_sch : h0.size ≤ sch := g2 ▸ KK1.1
  have V2_r := V1_r.ext x2
  have E2_o := E1_o.ext x2
  have E2_r := E1_r.ext x2
  have F2_schedule_o := FC1_F_schedule.ext x2
  have F2_initialState_o := FC1_F_initialState.ext x2
  have F2_state_o := FC1_F_state.ext x2
  have Z2 : n0 ≤ h2.size := Nat.le_trans Z1 x2.1
  have K2 : Keep h0 h2 [o] := KK1.ext x2
  have V2_sch : Arv Z h2 sch k_sch .long (80 : Int32) [] (.long 0) := Arv.new A2 (by decide)
  refine own_st st2 ?_
  show own_Go p e below _ T2 (mkF m 15 #[rv o, rv ag, rv r] [(.ref sch), (.ref o)])
  obtain ⟨T3, h3, X3, e3, W3, st3⟩ := putF X2 hx hZ hown (host := "") (Or.inl (hw _ (List.mem_of_getElem? (i := 55) rfl))) Via.refl e2 F2_schedule_o E2_o (Or.inr ⟨(hw _ (List.mem_of_getElem? (i := 56) rfl)), rfl, hnm⟩) (hw _ (List.mem_of_getElem? (i := 3) rfl)) (ty := .array .long) (by decide) rfl rfl (g := (mkF m 15 #[rv o, rv ag, rv r] [(.ref sch), (.ref o)])) rfl rfl (hb hby own_da_15)
  have V3_r := V2_r.other W3 ne_r_o
  have E3_o := E2_o.wr W3
  have E3_r := E2_r.wr W3
  have F3_schedule_o := F2_schedule_o.same W3
  have F3_initialState_o := F2_initialState_o.other W3 (Or.inr (slot_ne (Or.inr (hw _ (List.mem_of_getElem? (i := 58) rfl))) (Or.inr (hw _ (List.mem_of_getElem? (i := 56) rfl))) (by decide) (t := .array .long) (t' := .array .long) (by decide) (by decide)))
  have F3_state_o := F2_state_o.other W3 (Or.inr (slot_ne (Or.inr (hw _ (List.mem_of_getElem? (i := 69) rfl))) (Or.inr (hw _ (List.mem_of_getElem? (i := 56) rfl))) (by decide) (t := .array .long) (t' := .array .long) (by decide) (by decide)))
  have Z3 : n0 ≤ h3.size := by rw [W3.size]; exact Z2
  have K3 : Keep h0 h3 [o] := K2.wr W3 (Or.inl (List.mem_of_getElem? (i := 0) rfl))
  have N3 := Fr.snoc X3 M1 g_o
  refine own_st st3 ?_
  show own_Go p e below _ T3 (mkF m 18 #[rv o, rv ag, rv r] [])
  refine own_st (fun _ k => XS.aloadN X3.here hx rfl (hb hby own_da_18) rfl rfl k) ?_
  show own_Go p e below _ T3 (mkF m 19 #[rv o, rv ag, rv r] [(.ref o)])
  refine own_st (fun _ k => XS.aloadN X3.here hx rfl (hb hby own_da_19) rfl rfl k) ?_
  show own_Go p e below _ T3 (mkF m 20 #[rv o, rv ag, rv r] [(.ref r), (.ref o)])
  obtain ⟨T4, h4, X4, e4, W4, st4⟩ := putF X3 hx hZ hown (host := "") (Or.inl (hw _ (List.mem_of_getElem? (i := 57) rfl))) Via.refl e3 F3_initialState_o E3_o (Or.inr ⟨(hw _ (List.mem_of_getElem? (i := 58) rfl)), rfl, hnm⟩) (hw _ (List.mem_of_getElem? (i := 3) rfl)) (ty := .array .long) (by decide) rfl rfl (g := (mkF m 20 #[rv o, rv ag, rv r] [(.ref r), (.ref o)])) rfl rfl (hb hby own_da_20)
  have V4_r := V3_r.other W4 ne_r_o
  have E4_o := E3_o.wr W4
  have E4_r := E3_r.wr W4
  have F4_schedule_o := F3_schedule_o.other W4 (Or.inr (slot_ne (Or.inr (hw _ (List.mem_of_getElem? (i := 56) rfl))) (Or.inr (hw _ (List.mem_of_getElem? (i := 58) rfl))) (by decide) (t := .array .long) (t' := .array .long) (by decide) (by decide)))
  have F4_initialState_o := F3_initialState_o.same W4
  have F4_state_o := F3_state_o.other W4 (Or.inr (slot_ne (Or.inr (hw _ (List.mem_of_getElem? (i := 69) rfl))) (Or.inr (hw _ (List.mem_of_getElem? (i := 58) rfl))) (by decide) (t := .array .long) (t' := .array .long) (by decide) (by decide)))
  have Z4 : n0 ≤ h4.size := by rw [W4.size]; exact Z3
  have K4 : Keep h0 h4 [o] := K3.wr W4 (Or.inl (List.mem_of_getElem? (i := 0) rfl))
  have N4 := Fr.snoc X4 N3 g_o
  refine own_st st4 ?_
  show own_Go p e below _ T4 (mkF m 23 #[rv o, rv ag, rv r] [])
  refine own_st (fun _ k => XS.aloadN X4.here hx rfl (hb hby own_da_23) rfl rfl k) ?_
  show own_Go p e below _ T4 (mkF m 24 #[rv o, rv ag, rv r] [(.ref o)])
  refine own_st (fun _ k => XS.aloadN X4.here hx rfl (hb hby own_da_24) rfl rfl k) ?_
  show own_Go p e below _ T4 (mkF m 25 #[rv o, rv ag, rv r] [(.ref r), (.ref o)])
  obtain ⟨T5, h5, X5, e5, x5, A5, Q5, st5⟩ := cloneH X4 hx hZ hown (hw _ (List.mem_of_getElem? (i := 59) rfl)) (hw _ (List.mem_of_getElem? (i := 60) rfl)) (hw _ (List.mem_of_getElem? (i := 64) rfl)) (hw _ (List.mem_of_getElem? (i := 62) rfl)) (hw _ (List.mem_of_getElem? (i := 63) rfl)) (hw _ (List.mem_of_getElem? (i := 65) rfl)) e4 (Arv.arh V4_r) E4_r (g := (mkF m 25 #[rv o, rv ag, rv r] [(.ref r), (.ref o)])) rfl (by rw [hml]; rfl) rfl (hb hby own_da_25) (by decide) (W := 1) (cap := 8) (by show 2 * 0 + _ ≤ _; exact Nat.le_of_eq rfl) (by decide) (by decide) (by decide) (by decide)
  obtain ⟨st1, g5⟩ : ∃ z, z = h4.size := ⟨_, rfl⟩
  rw [← g5] at A5 Q5 st5
  have ne_r_st1 : r ≠ st1 := g5 ▸ Nat.ne_of_lt V4_r.lt
  have ne_o_st1 : o ≠ st1 := g5 ▸ Nat.ne_of_lt E4_o.lt
  have g_st1 : n0 ≤ st1 := g5 ▸ Z4
  have sz_st1 : h0.size ≤ st1 := g5 ▸ K4.1
  have V5_r := V4_r.ext x5
  have E5_o := E4_o.ext x5
  have E5_r := E4_r.ext x5
  have F5_schedule_o := F4_schedule_o.ext x5
  have F5_initialState_o := F4_initialState_o.ext x5
  have F5_state_o := F4_state_o.ext x5
  have Z5 : n0 ≤ h5.size := Nat.le_trans Z4 x5.1
  have K5 : Keep h0 h5 [o] := K4.ext x5
  have V5_st1 : Arv Z h5 st1 kr .long (8 : Int32) (sv.map Value.long) (.long 0) := A5
  refine own_st st5 ?_
  show own_Go p e below _ T5 (mkF m 28 #[rv o, rv ag, rv r] [(.ref st1), (.ref o)])
  obtain ⟨T6, X6, e6, st6⟩ := castY X5 hx hZ hown (hw _ (List.mem_of_getElem? (i := 66) rfl)) e5 (Ins.self Q5) (g := (mkF m 28 #[rv o, rv ag, rv r] [(.ref st1), (.ref o)])) rfl rfl (hb hby own_da_28)
  refine own_st st6 ?_
  show own_Go p e below _ T6 (mkF m 31 #[rv o, rv ag, rv r] [(.ref st1), (.ref o)])
  obtain ⟨T7, h7, X7, e7, W7, st7⟩ := putF X6 hx hZ hown (host := "") (Or.inl (hw _ (List.mem_of_getElem? (i := 68) rfl))) Via.refl e6 F5_state_o E5_o (Or.inr ⟨(hw _ (List.mem_of_getElem? (i := 69) rfl)), rfl, hnm⟩) (hw _ (List.mem_of_getElem? (i := 3) rfl)) (ty := .array .long) (by decide) rfl rfl (g := (mkF m 31 #[rv o, rv ag, rv r] [(.ref st1), (.ref o)])) rfl rfl (hb hby own_da_31)
  have V7_r := V5_r.other W7 ne_r_o
  have V7_st1 := V5_st1.other W7 ne_o_st1.symm
  have E7_o := E5_o.wr W7
  have E7_r := E5_r.wr W7
  have E7_st1 := Q5.wr W7
  have F7_schedule_o := F5_schedule_o.other W7 (Or.inr (slot_ne (Or.inr (hw _ (List.mem_of_getElem? (i := 56) rfl))) (Or.inr (hw _ (List.mem_of_getElem? (i := 69) rfl))) (by decide) (t := .array .long) (t' := .array .long) (by decide) (by decide)))
  have F7_initialState_o := F5_initialState_o.other W7 (Or.inr (slot_ne (Or.inr (hw _ (List.mem_of_getElem? (i := 58) rfl))) (Or.inr (hw _ (List.mem_of_getElem? (i := 69) rfl))) (by decide) (t := .array .long) (t' := .array .long) (by decide) (by decide)))
  have F7_state_o := F5_state_o.same W7
  have Z7 : n0 ≤ h7.size := by rw [W7.size]; exact Z5
  have K7 : Keep h0 h7 [o] := K5.wr W7 (Or.inl (List.mem_of_getElem? (i := 0) rfl))
  have N7 := Fr.snoc X7 N4 g_o
  refine own_st st7 ?_
  show own_Go p e below _ T7 (mkF m 34 #[rv o, rv ag, rv r] [])
  refine own_ret X7 hx Bd.notSynchronized Bd.returns (hb hby own_da_34) (by decide) (by decide) ?_
  rw [e7]
  exact ⟨st1, rfl, N7, K7, F7_state_o, V7_st1, sz_st1⟩
theorem own_byte (x : Int32) : x.toInt8.toInt32.toInt8.toInt32 = x.toInt8.toInt32 := by simp
theorem own_rem65 (x : Int32) : ∃ k : Nat, k < 65 ∧ (x &&& (2147483647 : Int32)) % (65 : Int32) = Int32.ofNat k := by
  have e1 : (x &&& (2147483647 : Int32)).toInt = x.toInt % 2 ^ 31 := Jvm.Kit.i32_mask x 2147483647 (k := 31) (by decide) (by decide)
  have e2 : ((x &&& (2147483647 : Int32)) % (65 : Int32)).toInt = (x &&& (2147483647 : Int32)).toInt.tmod 65 := by rw [Int32.toInt_mod]; rfl
  refine ⟨(x.toInt % 2 ^ 31 % 65).toNat, by omega, ?_⟩
  apply Int32.toInt_inj.mp
  rw [e2, e1, Int.tmod_eq_emod_of_nonneg (by omega), Int32.toInt_ofNat_of_lt (by omega)]
  omega
theorem own_idx (y : Int32) (n : Nat) (h0 : 0 < n) (hn : n ≤ 64) : ∃ t : Nat, t < n ∧ (y &&& (65535 : Int32)) % Int32.ofNat n = Int32.ofNat t := by
  have e1 : (y &&& (65535 : Int32)).toInt = y.toInt % 2 ^ 16 := Jvm.Kit.i32_mask y 65535 (k := 16) (by decide) (by decide)
  have e2 : ((y &&& (65535 : Int32)) % Int32.ofNat n).toInt = (y &&& (65535 : Int32)).toInt.tmod n := by rw [Int32.toInt_mod, Int32.toInt_ofNat_of_lt (by omega)]
  have hb := Int.emod_lt_of_pos (y.toInt % 2 ^ 16) (b := (n : Int)) (by omega)
  have ha := Int.emod_nonneg (y.toInt % 2 ^ 16) (b := (n : Int)) (by omega)
  refine ⟨(y.toInt % 2 ^ 16 % n).toNat, by omega, ?_⟩
  apply Int32.toInt_inj.mp
  rw [e2, e1, Int.tmod_eq_emod_of_nonneg (by omega), Int32.toInt_ofNat_of_lt (by omega)]
  omega
def own_b (w : Int64) (t : Nat) : Int32 := (XT.ushrL w ((56 : Int32) - (8 : Int32) * (Int32.ofNat t % (8 : Int32)))).toInt32.toInt8.toInt32
def own_be (w : Int64) (t : Nat) : Int32 := (XT.ushrL (w <<< (((Int32.ofNat t &&& (7 : Int32)) * (8 : Int32)).toInt64 &&& 63)) (56 : Int32)).toInt32.toInt8.toInt32
theorem own_sh1 : ∀ t : Fin 64, ((((56 : Int32) - (8 : Int32) * (Int32.ofNat t.1 % (8 : Int32))).toInt64.toUInt64 &&& Int64.toUInt64 63)) = UInt64.ofNat (56 - 8 * (t.1 % 8)) := by decide +kernel
theorem own_sh2 : ∀ t : Fin 64, (((Int32.ofNat t.1 &&& (7 : Int32)) * (8 : Int32)).toInt64 &&& 63) = Int64.ofNat (8 * (t.1 % 8)) := by decide +kernel
theorem own_sh3 : ((56 : Int32).toInt64.toUInt64 &&& Int64.toUInt64 63) = UInt64.ofNat 56 := by decide +kernel
theorem own_sh4 : ∀ r : Fin 8, ((Int64.ofNat (8 * r.1)).toBitVec.smod 64).toNat = 8 * r.1 := by decide +kernel
theorem own_bits (w : BitVec 64) (r : Nat) (hr : r < 8) : ((w >>> (56 - 8 * r)).setWidth 8) = (((w <<< (8 * r)) >>> 56).setWidth 8) := by
  apply BitVec.eq_of_getLsbD_eq
  intro i hi
  simp only [BitVec.getLsbD_setWidth, BitVec.getLsbD_ushiftRight, BitVec.getLsbD_shiftLeft]
  have e1 : 56 + i < 64 := by omega
  have e2 : ¬ (56 + i < 8 * r) := by omega
  have e3 : 56 + i - 8 * r = 56 - 8 * r + i := by omega
  simp [e1, e2, e3]
theorem own_ushrL (x : Int64) (y : Int32) : XT.ushrL x y = (x.toUInt64 >>> (y.toInt64.toUInt64 &&& Int64.toUInt64 63)).toInt64 := rfl
theorem own_same (w : Int64) (t : Nat) (ht : t < 64) : own_b w t = own_be w t := by
  unfold own_b own_be
  rw [own_ushrL, own_ushrL, own_sh1 ⟨t, ht⟩, own_sh2 ⟨t, ht⟩, own_sh3]
  congr 1
  apply Int8.toBitVec_inj.mp
  have h := own_bits w.toBitVec (t % 8) (Nat.mod_lt _ (by decide))
  have hr : t % 8 < 8 := Nat.mod_lt _ (by decide)
  generalize t % 8 = r at h hr
  have e1 : (UInt64.ofNat (56 - 8 * r)).toBitVec.toNat % 64 = 56 - 8 * r := by
    simp; omega
  simp only [Int64.toBitVec_toInt32, Int32.toBitVec_toInt8]
  have s : ∀ b : BitVec 64, BitVec.signExtend 8 (BitVec.signExtend 32 b) = b.setWidth 8 := fun b => by
    rw [BitVec.signExtend_eq_setWidth_of_le _ (by decide), BitVec.signExtend_eq_setWidth_of_le _ (by decide), BitVec.setWidth_setWidth_of_le _ (by decide)]
  rw [s, s]
  have f1 : (w.toUInt64 >>> UInt64.ofNat (56 - 8 * r)).toInt64.toBitVec = w.toBitVec >>> (56 - 8 * r) := by
    show (w.toUInt64 >>> UInt64.ofNat (56 - 8 * r)).toBitVec = _
    rw [UInt64.toBitVec_shiftRight]
    show w.toBitVec >>> ((UInt64.ofNat (56 - 8 * r)).toBitVec % 64) = _
    rw [BitVec.ushiftRight_eq']
    congr 1
  have f2 : ((w <<< Int64.ofNat (8 * r)).toUInt64 >>> UInt64.ofNat 56).toInt64.toBitVec = (w.toBitVec <<< (8 * r)) >>> 56 := by
    show ((w <<< Int64.ofNat (8 * r)).toUInt64 >>> UInt64.ofNat 56).toBitVec = _
    rw [UInt64.toBitVec_shiftRight]
    show (w <<< Int64.ofNat (8 * r)).toBitVec >>> ((UInt64.ofNat 56).toBitVec % 64) = _
    rw [Int64.toBitVec_shiftLeft]
    rw [BitVec.shiftLeft_eq', BitVec.ushiftRight_eq', own_sh4 ⟨r, hr⟩]
    rfl
  rw [f1, f2, h]
theorem own_ix : ∀ t : Fin 64, Int32.ofNat t.1 / (8 : Int32) = Int32.ofNat (t.1 / 8) ∧ Int32.ofNat t.1 >>> ((3 : Int32) &&& 31) = Int32.ofNat (t.1 / 8) ∧ ¬ (Int32.ofNat (t.1 / 8) < 0) ∧ Int32.ofNat (t.1 / 8) < (8 : Int32) ∧ (Int32.ofNat (t.1 / 8)).toNatClampNeg = t.1 / 8 ∧ ¬ (Int32.ofNat t.1 < 0) ∧ (Int32.ofNat t.1).toNatClampNeg = t.1 := by decide +kernel
theorem own_len64 : ∀ n : Fin 65, ¬ (Int32.ofNat n.1 < 0) ∧ (Int32.ofNat n.1).toNatClampNeg = n.1 ∧ (Int32.ofNat n.1 = 0 → n.1 = 0) := by decide +kernel
theorem own_lt64 {i n : Nat} (h : i < n) (hn : n ≤ 64) : Int32.ofNat i < Int32.ofNat n := by
  rw [Int32.lt_iff_toInt_lt, Int32.toInt_ofNat_of_lt (by omega), Int32.toInt_ofNat_of_lt (by omega)]; omega
theorem own_one (i : Nat) : Int32.ofNat i + (1 : Int32) = Int32.ofNat (i + 1) := (Int32.ofNat_add i 1).symm
theorem own_pred : ∀ n : Fin 65, 0 < n.1 → Int32.ofNat n.1 - (1 : Int32) = Int32.ofNat (n.1 - 1) := by decide +kernel
/-- the first i bytes -/
def own_bs (sv : List Int64) (i : Nat) : List Value := (List.range i).map fun t => .int (own_b (sv.getD (t / 8) 0) t)
theorem own_bs_len (sv : List Int64) (i : Nat) : (own_bs sv i).length = i := by simp [own_bs]
theorem own_bs_succ (sv : List Int64) (i : Nat) : own_bs sv (i + 1) = own_bs sv i ++ [.int (own_b (sv.getD (i / 8) 0) i)] := by simp [own_bs, List.range_succ]
theorem own_bs_at (sv : List Int64) {t n : Nat} (h : t < n) : (own_bs sv n).getD t (.int 0) = .int (own_b (sv.getD (t / 8) 0) t) := by
  simp [own_bs, List.getD, h]
theorem own_getD (sv : List Int64) (j : Nat) : (sv.map Value.long).getD j (.long 0) = .long (sv.getD j 0) := by
  simp only [List.getD, List.getElem?_map]
  cases sv[j]? <;> rfl

theorem own_ef_ws (m : MethodId) (x0 : Addr) (x1 : Addr) : entryFrame m #[(.ref x0), (.ref x1)] 3 = mkF m 0 #[.val (.ref x0), .val (.ref x1), .unset] [] := by first | (simp [entryFrame, mkF, argsToLocals, Value.category]; done) | rfl
def own_Q_ws (Z : State) (o : Addr) (ou : Addr) (st : Addr) (ks : ClassId) (ko : ClassId) (n : Nat) (sv : List Int64) (h0 : Heap) (n0 : Nat) (v : Option Value) (h : Heap) (L : List Loc) : Prop := v = none ∧ Fr n0 L ∧ Keep h0 h [ou] ∧ Arv Z h ou ko .byte (Int32.ofNat n) (own_bs sv n) (.int 0)
set_option maxRecDepth 65536 in
set_option maxHeartbeats 40000000 in
theorem own_rm_ws (l : Launch) (Z : State) (a0 : Array Value) (hw : ∀ d ∈ tables_1, d.before a0 Z = true) (ws : List Jvm.Cond) (o : Addr) (ou : Addr) (st : Addr) (ks : ClassId) (ko : ClassId) (n : Nat) (sv : List Int64) (h0 : Heap) (n0 : Nat) (Z0 : n0 ≤ h0.size) (F_st : Fld Z h0 o "com/example/hashwright/hashwright/Sha512" "state" "[J" (.ref st)) (V_st : Arv Z h0 st ks .long (8 : Int32) (sv.map Value.long) (.long 0)) (V_ou : Arv Z h0 ou ko .byte (Int32.ofNat n) (own_bs sv 0) (.int 0)) (hn : n ≤ 64) (ne_o_ou : o ≠ ou) (ne_st_ou : st ≠ ou) (g_ou : n0 ≤ ou) :
    MetFree l (⟨"com/example/hashwright/hashwright/Sha512", "writeState", "([B)V"⟩ : MethodName) (head1 (Jvm.Cond.code (⟨"com/example/hashwright/hashwright/Sha512", "writeState", "([B)V"⟩ : MethodName) prog_16_method_7_code 3 none :: ws) ({ frames := 0, cells := 0, slots := 0, locals := 0 } : Room)) (fun zz U => zz = #[(.ref o), (.ref ou)] ∧ Z.Warmed39 U.vm ∧ U.heap = h0) (fun _ _ _ _ _ => True) (fun _ U zo U' => ∃ v L, zo = .returned v ∧ own_Q_ws Z o ou st ks ko n sv h0 n0 v U'.heap L ∧ FrameEnd U zo U' L ({ frames := 0, cells := 0, slots := 0, locals := 0 } : Room).cells ({ frames := 0, cells := 0, slots := 0, locals := 0 } : Room).slots) := by
  refine MetFree.of_bodySF (plainFor_of_name own_pn4) hisR ?_
  intro p e s m args below meth c s₁ Bd hml0 hP hK
  obtain ⟨rfl, hZ, hh⟩ := hP
  have hx := Bd.exec
  have hby := Bd.bytes
  have hml : c.maxLocals = 3 := hml0
  have hown : s.vm.findClass "com/example/hashwright/hashwright/Sha512" = some m.cls := findClass_of_methodNamed Bd.named
  have hnm := (name_of_methodNamed Bd.named Bd.method).1
  have X0 : Stand p l e ({ frames := 0, cells := 0, slots := 0, locals := 0 } : Room) s m #[(.ref o), (.ref ou)] below meth c s₁ [] 0 0 := Stand.of_body Bd
  have e0 : s₁.heap = h0 := by rw [← hh, Bd.state]; rfl
  have N0 := Fr.nil n0
  show own_Go p e below (own_K s (own_Q_ws Z o ou st ks ko n sv h0 n0) ({ frames := 0, cells := 0, slots := 0, locals := 0 } : Room).cells ({ frames := 0, cells := 0, slots := 0, locals := 0 } : Room).slots) s₁ (entryFrame m #[(.ref o), (.ref ou)] 3)
  rw [own_ef_ws m o ou]
  show own_Go p e below _ s₁ (mkF m 0 #[rv o, rv ou, .unset] [])
  refine own_st (fun _ k => XT.iconstV X0.here hx rfl (0 : Int32) (hb hby own_dh_0) (by decide) k) ?_
  show own_Go p e below _ s₁ (mkF m 1 #[rv o, rv ou, .unset] [(.int 0)])
  refine own_st (fun _ k => XS.istoreN X0.here hx rfl (hb hby own_dh_1) rfl (l' := #[rv o, rv ou, iv 0]) rfl k) ?_
  show own_Go p e below _ s₁ (mkF m 2 #[rv o, rv ou, iv 0] [])
  have F_st' : Fld Z h0 o "com/example/hashwright/hashwright/Sha512" "state" "[J" (.ref st) := F_st
  have loop : ∀ (k i : Nat), i + k = n → ∀ (Tl : State) (locs : List Loc) (hl : Heap), Stand p l e ({ frames := 0, cells := 0, slots := 0, locals := 0 } : Room) s m #[(.ref o), (.ref ou)] below meth c Tl locs 0 0 → Tl.heap = hl → Keep h0 hl [ou] → Fr n0 locs → Arv Z hl ou ko .byte (Int32.ofNat n) (own_bs sv i) (.int 0) → own_Go p e below (own_K s (own_Q_ws Z o ou st ks ko n sv h0 n0) ({ frames := 0, cells := 0, slots := 0, locals := 0 } : Room).cells ({ frames := 0, cells := 0, slots := 0, locals := 0 } : Room).slots) Tl (mkF m 2 #[rv o, rv ou, iv (Int32.ofNat i)] []) := by
    intro k
    induction k with
    | zero =>
      intro i hik Tl locs hl Xl el Kl Nl Vl
      obtain rfl : i = n := by omega
      show own_Go p e below _ Tl (mkF m 2 #[rv o, rv ou, iv (Int32.ofNat i)] [])
      refine own_st (fun _ k => XS.iloadN Xl.here hx rfl (hb hby own_dh_2) rfl k) ?_
      show own_Go p e below _ Tl (mkF m 3 #[rv o, rv ou, iv (Int32.ofNat i)] [(.int (Int32.ofNat i))])
      refine own_st (fun _ k => XS.aloadN Xl.here hx rfl (hb hby own_dh_3) rfl rfl k) ?_
      show own_Go p e below _ Tl (mkF m 4 #[rv o, rv ou, iv (Int32.ofNat i)] [(.ref ou), (.int (Int32.ofNat i))])
      refine own_st (fun _ k => own_len Xl hx hZ el Vl rfl rfl (hb hby own_dh_4) k) ?_
      show own_Go p e below _ Tl (mkF m 5 #[rv o, rv ou, iv (Int32.ofNat i)] [(.int (Int32.ofNat i)), (.int (Int32.ofNat i))])
      refine own_st (fun _ k => XS.icmpYes Xl.here hx rfl (pc0 := 5) (pc' := 39) rfl (hb hby own_dh_5) rfl (XT.ii_ge_t (by rw [Int32.lt_iff_toInt_lt]; omega)) (by decide) (by decide) k) ?_
      show own_Go p e below _ Tl (mkF m 39 #[rv o, rv ou, iv (Int32.ofNat i)] [])
      refine own_ret Xl hx Bd.notSynchronized Bd.returns (hb hby own_dh_39) (by decide) (by decide) ?_
      rw [el]
      exact ⟨rfl, Nl, Kl, Vl⟩
    | succ k ih =>
      intro i hik Tl locs hl Xl el Kl Nl Vl
      have hi : i < 64 := by omega
      obtain ⟨x1, x2, x3, x4, x5, x6, x7⟩ := own_ix ⟨i, hi⟩
      show own_Go p e below _ Tl (mkF m 2 #[rv o, rv ou, iv (Int32.ofNat i)] [])
      refine own_st (fun _ k => XS.iloadN Xl.here hx rfl (hb hby own_dh_2) rfl k) ?_
      show own_Go p e below _ Tl (mkF m 3 #[rv o, rv ou, iv (Int32.ofNat i)] [(.int (Int32.ofNat i))])
      refine own_st (fun _ k => XS.aloadN Xl.here hx rfl (hb hby own_dh_3) rfl rfl k) ?_
      show own_Go p e below _ Tl (mkF m 4 #[rv o, rv ou, iv (Int32.ofNat i)] [(.ref ou), (.int (Int32.ofNat i))])
      refine own_st (fun _ k => own_len Xl hx hZ el Vl rfl rfl (hb hby own_dh_4) k) ?_
      show own_Go p e below _ Tl (mkF m 5 #[rv o, rv ou, iv (Int32.ofNat i)] [(.int (Int32.ofNat n)), (.int (Int32.ofNat i))])
      refine own_st (fun _ k => XS.icmpNo Xl.here hx rfl (hb hby own_dh_5) rfl (XT.ii_ge_f (own_lt64 (by omega) hn)) k) ?_
      show own_Go p e below _ Tl (mkF m 8 #[rv o, rv ou, iv (Int32.ofNat i)] [])
      refine own_st (fun _ k => XS.aloadN Xl.here hx rfl (hb hby own_dh_8) rfl rfl k) ?_
      show own_Go p e below _ Tl (mkF m 9 #[rv o, rv ou, iv (Int32.ofNat i)] [(.ref ou)])
      refine own_st (fun _ k => XS.iloadN Xl.here hx rfl (hb hby own_dh_9) rfl k) ?_
      show own_Go p e below _ Tl (mkF m 10 #[rv o, rv ou, iv (Int32.ofNat i)] [(.int (Int32.ofNat i)), (.ref ou)])
      refine own_st (fun _ k => XS.aloadN Xl.here hx rfl (hb hby own_dh_10) rfl rfl k) ?_
      show own_Go p e below _ Tl (mkF m 11 #[rv o, rv ou, iv (Int32.ofNat i)] [(.ref o), (.int (Int32.ofNat i)), (.ref ou)])
      obtain ⟨T2, X2, e2, st2⟩ := getF Xl hx hZ hown (host := "") (Or.inl (hw _ (List.mem_of_getElem? (i := 68) rfl))) Via.refl el (F_st.keep Kl (ninS ne_o_ou nin0)) (g := (mkF m 11 #[rv o, rv ou, iv (Int32.ofNat i)] [(.ref o), (.int (Int32.ofNat i)), (.ref ou)])) rfl rfl (hb hby own_dh_11)
      refine own_st st2 ?_
      show own_Go p e below _ T2 (mkF m 14 #[rv o, rv ou, iv (Int32.ofNat i)] [(.ref st), (.int (Int32.ofNat i)), (.ref ou)])
      refine own_st (fun _ k => XS.iloadN X2.here hx rfl (hb hby own_dh_14) rfl k) ?_
      show own_Go p e below _ T2 (mkF m 15 #[rv o, rv ou, iv (Int32.ofNat i)] [(.int (Int32.ofNat i)), (.ref st), (.int (Int32.ofNat i)), (.ref ou)])
      refine own_st (fun _ k => XT.bipushV X2.here hx rfl (8 : Int32) (hb hby own_dh_15) (by decide) k) ?_
      show own_Go p e below _ T2 (mkF m 17 #[rv o, rv ou, iv (Int32.ofNat i)] [(.int 8), (.int (Int32.ofNat i)), (.ref st), (.int (Int32.ofNat i)), (.ref ou)])
      refine own_st (fun _ k => XS.idiv X2.here hx rfl (hb hby own_dh_17) rfl (by decide) k) ?_
      rw [show Int32.ofNat i / (8 : Int32) = Int32.ofNat (i / 8) from x1]
      show own_Go p e below _ T2 (mkF m 18 #[rv o, rv ou, iv (Int32.ofNat i)] [(.int (Int32.ofNat (i / 8))), (.ref st), (.int (Int32.ofNat i)), (.ref ou)])
      refine own_st (fun _ k => own_ldJ X2 hx hZ e2 (V_st.keep Kl (ninS ne_st_ou nin0)) ⟨x3, x4⟩ (v := (.long (sv.getD (i / 8) 0))) (by rw [show (Int32.ofNat (i / 8)).toNatClampNeg = i / 8 from x5]; exact own_getD sv (i / 8)) rfl rfl (hb hby own_dh_18) k) ?_
      show own_Go p e below _ T2 (mkF m 19 #[rv o, rv ou, iv (Int32.ofNat i)] [(.long (sv.getD (i / 8) 0)), (.int (Int32.ofNat i)), (.ref ou)])
      refine own_st (fun _ k => XT.bipushV X2.here hx rfl (56 : Int32) (hb hby own_dh_19) (by decide) k) ?_
      show own_Go p e below _ T2 (mkF m 21 #[rv o, rv ou, iv (Int32.ofNat i)] [(.int 56), (.long (sv.getD (i / 8) 0)), (.int (Int32.ofNat i)), (.ref ou)])
      refine own_st (fun _ k => XT.bipushV X2.here hx rfl (8 : Int32) (hb hby own_dh_21) (by decide) k) ?_
      show own_Go p e below _ T2 (mkF m 23 #[rv o, rv ou, iv (Int32.ofNat i)] [(.int 8), (.int 56), (.long (sv.getD (i / 8) 0)), (.int (Int32.ofNat i)), (.ref ou)])
      refine own_st (fun _ k => XS.iloadN X2.here hx rfl (hb hby own_dh_23) rfl k) ?_
      show own_Go p e below _ T2 (mkF m 24 #[rv o, rv ou, iv (Int32.ofNat i)] [(.int (Int32.ofNat i)), (.int 8), (.int 56), (.long (sv.getD (i / 8) 0)), (.int (Int32.ofNat i)), (.ref ou)])
      refine own_st (fun _ k => XT.bipushV X2.here hx rfl (8 : Int32) (hb hby own_dh_24) (by decide) k) ?_
      show own_Go p e below _ T2 (mkF m 26 #[rv o, rv ou, iv (Int32.ofNat i)] [(.int 8), (.int (Int32.ofNat i)), (.int 8), (.int 56), (.long (sv.getD (i / 8) 0)), (.int (Int32.ofNat i)), (.ref ou)])
      refine own_st (fun _ k => iremM X2 hx rfl (hb hby own_dh_26) rfl (by decide) k) ?_
      show own_Go p e below _ T2 (mkF m 27 #[rv o, rv ou, iv (Int32.ofNat i)] [(.int ((Int32.ofNat i) % 8)), (.int 8), (.int 56), (.long (sv.getD (i / 8) 0)), (.int (Int32.ofNat i)), (.ref ou)])
      refine own_st (fun _ k => XS.imul X2.here hx rfl (hb hby own_dh_27) rfl k) ?_
      show own_Go p e below _ T2 (mkF m 28 #[rv o, rv ou, iv (Int32.ofNat i)] [(.int (8 * ((Int32.ofNat i) % 8))), (.int 56), (.long (sv.getD (i / 8) 0)), (.int (Int32.ofNat i)), (.ref ou)])
      refine own_st (fun _ k => XS.isub X2.here hx rfl (hb hby own_dh_28) rfl k) ?_
      show own_Go p e below _ T2 (mkF m 29 #[rv o, rv ou, iv (Int32.ofNat i)] [(.int (56 - (8 * ((Int32.ofNat i) % 8)))), (.long (sv.getD (i / 8) 0)), (.int (Int32.ofNat i)), (.ref ou)])
      refine own_st (fun _ k => XT.lushr X2.here hx rfl (hb hby own_dh_29) rfl k) ?_
      show own_Go p e below _ T2 (mkF m 30 #[rv o, rv ou, iv (Int32.ofNat i)] [(.long (XT.ushrL (sv.getD (i / 8) 0) (56 - (8 * ((Int32.ofNat i) % 8))))), (.int (Int32.ofNat i)), (.ref ou)])
      refine own_st (fun _ k => XT.l2i X2.here hx rfl (hb hby own_dh_30) rfl k) ?_
      show own_Go p e below _ T2 (mkF m 31 #[rv o, rv ou, iv (Int32.ofNat i)] [(.int (XT.ushrL (sv.getD (i / 8) 0) (56 - (8 * ((Int32.ofNat i) % 8)))).toInt32), (.int (Int32.ofNat i)), (.ref ou)])
      refine own_st (fun _ k => XT.i2b X2.here hx rfl (hb hby own_dh_31) rfl k) ?_
      show own_Go p e below _ T2 (mkF m 32 #[rv o, rv ou, iv (Int32.ofNat i)] [(.int (XT.ushrL (sv.getD (i / 8) 0) (56 - (8 * ((Int32.ofNat i) % 8)))).toInt32.toInt8.toInt32), (.int (Int32.ofNat i)), (.ref ou)])
      obtain ⟨T3, h3, X3, e3, W3, V3, st3⟩ := own_pushB X2 hx hZ e2 Vl (j := Int32.ofNat i) ⟨x6, own_lt64 (by omega) hn⟩ (by rw [show (Int32.ofNat i).toNatClampNeg = i from x7]; exact (own_bs_len sv i).symm) (g := (mkF m 32 #[rv o, rv ou, iv (Int32.ofNat i)] [(.int (XT.ushrL (sv.getD (i / 8) 0) (56 - (8 * ((Int32.ofNat i) % 8)))).toInt32.toInt8.toInt32), (.int (Int32.ofNat i)), (.ref ou)])) rfl rfl (hb hby own_dh_32)
      have V3' : Arv Z h3 ou ko .byte (Int32.ofNat n) (own_bs sv (i + 1)) (.int 0) := by rw [own_bs_succ]; rw [own_byte] at V3; exact V3
      have N3 := Fr.snoc X3 Nl g_ou
      have K3 : Keep h0 h3 [ou] := Kl.wr W3 (Or.inl (List.mem_of_getElem? (i := 0) rfl))
      refine own_st st3 ?_
      show own_Go p e below _ T3 (mkF m 33 #[rv o, rv ou, iv (Int32.ofNat i)] [])
      refine own_st (fun _ k => XT.iincV X3.here hx rfl (1 : Int32) (hb hby own_dh_33) (by decide) rfl (l' := #[rv o, rv ou, iv ((Int32.ofNat i) + 1)]) rfl k) ?_
      show own_Go p e below _ T3 (mkF m 36 #[rv o, rv ou, iv ((Int32.ofNat i) + 1)] [])
      rw [own_one]
      show own_Go p e below _ T3 (mkF m 36 #[rv o, rv ou, iv (Int32.ofNat (i + 1))] [])
      refine own_st (fun _ k => XS.goto X3.here hx rfl (pc0 := 36) (pc' := 2) rfl (hb hby own_dh_36) (by decide) (by decide) k) ?_
      show own_Go p e below _ T3 (mkF m 2 #[rv o, rv ou, iv (Int32.ofNat (i + 1))] [])
      exact ih (i + 1) (by omega) _ _ _ X3 e3 K3 N3 V3'
  exact loop n 0 (by omega) _ _ _ X0 e0 (Keep.refl _ _) N0 V_ou
theorem own_ef_be (m : MethodId) (x0 : Addr) (x1 : Int32) : entryFrame m #[(.ref x0), (.int x1)] 4 = mkF m 0 #[.val (.ref x0), .val (.int x1), .unset, .unset] [] := by first | (simp [entryFrame, mkF, argsToLocals, Value.category]; done) | rfl
def own_Q_be (Z : State) (r : Addr) (kr : ClassId) (t : Nat) (sv : List Int64) (h0 : Heap) (n0 : Nat) (v : Option Value) (h : Heap) (L : List Loc) : Prop := v = some (.int (own_be (sv.getD (t / 8) 0) t)) ∧ Fr n0 L ∧ h = h0
set_option maxRecDepth 65536 in
set_option maxHeartbeats 40000000 in
theorem own_rm_be (l : Launch) (Z : State) (a0 : Array Value) (hw : ∀ d ∈ tables_1, d.before a0 Z = true) (ws : List Jvm.Cond) (r : Addr) (kr : ClassId) (t : Nat) (sv : List Int64) (h0 : Heap) (n0 : Nat) (Z0 : n0 ≤ h0.size) (V_r : Arv Z h0 r kr .long (8 : Int32) (sv.map Value.long) (.long 0)) (ht : t < 64) :
    MetFree l (⟨"com/example/hashwright/hashwright/Sha512WriteStatePinLaw", "be", "([JI)B"⟩ : MethodName) (head1 (Jvm.Cond.code (⟨"com/example/hashwright/hashwright/Sha512WriteStatePinLaw", "be", "([JI)B"⟩ : MethodName) method_3_code 4 (some .byte) :: ws) ({ frames := 0, cells := 0, slots := 0, locals := 0 } : Room)) (fun zz U => zz = #[(.ref r), (.int (Int32.ofNat t))] ∧ Z.Warmed39 U.vm ∧ U.heap = h0) (fun _ _ _ _ _ => True) (fun _ U zo U' => ∃ v L, zo = .returned v ∧ own_Q_be Z r kr t sv h0 n0 v U'.heap L ∧ FrameEnd U zo U' L ({ frames := 0, cells := 0, slots := 0, locals := 0 } : Room).cells ({ frames := 0, cells := 0, slots := 0, locals := 0 } : Room).slots) := by
  refine MetFree.of_bodySF (plainFor_of_name own_pn5) hisR ?_
  intro p e s m args below meth c s₁ Bd hml0 hP hK
  obtain ⟨rfl, hZ, hh⟩ := hP
  have hx := Bd.exec
  have hby := Bd.bytes
  have hml : c.maxLocals = 4 := hml0
  have hown : s.vm.findClass "com/example/hashwright/hashwright/Sha512WriteStatePinLaw" = some m.cls := findClass_of_methodNamed Bd.named
  have hnm := (name_of_methodNamed Bd.named Bd.method).1
  have X0 : Stand p l e ({ frames := 0, cells := 0, slots := 0, locals := 0 } : Room) s m #[(.ref r), (.int (Int32.ofNat t))] below meth c s₁ [] 0 0 := Stand.of_body Bd
  have e0 : s₁.heap = h0 := by rw [← hh, Bd.state]; rfl
  have N0 := Fr.nil n0
  show own_Go p e below (own_K s (own_Q_be Z r kr t sv h0 n0) ({ frames := 0, cells := 0, slots := 0, locals := 0 } : Room).cells ({ frames := 0, cells := 0, slots := 0, locals := 0 } : Room).slots) s₁ (entryFrame m #[(.ref r), (.int (Int32.ofNat t))] 4)
  rw [own_ef_be m r (Int32.ofNat t)]
  show own_Go p e below _ s₁ (mkF m 0 #[rv r, iv (Int32.ofNat t), .unset, .unset] [])
  obtain ⟨x1, x2, x3, x4, x5, x6, x7⟩ := own_ix ⟨t, ht⟩
  refine own_st (fun _ k => XS.aloadN X0.here hx rfl (hb hby own_di_0) rfl rfl k) ?_
  show own_Go p e below _ s₁ (mkF m 1 #[rv r, iv (Int32.ofNat t), .unset, .unset] [(.ref r)])
  refine own_st (fun _ k => XS.iloadN X0.here hx rfl (hb hby own_di_1) rfl k) ?_
  show own_Go p e below _ s₁ (mkF m 2 #[rv r, iv (Int32.ofNat t), .unset, .unset] [(.int (Int32.ofNat t)), (.ref r)])
  refine own_st (fun _ k => XT.iconstV X0.here hx rfl (3 : Int32) (hb hby own_di_2) (by decide) k) ?_
  show own_Go p e below _ s₁ (mkF m 3 #[rv r, iv (Int32.ofNat t), .unset, .unset] [(.int 3), (.int (Int32.ofNat t)), (.ref r)])
  refine own_st (fun _ k => XT.ishr X0.here hx rfl (hb hby own_di_3) rfl k) ?_
  rw [show Int32.ofNat t >>> ((3 : Int32) &&& 31) = Int32.ofNat (t / 8) from x2]
  show own_Go p e below _ s₁ (mkF m 4 #[rv r, iv (Int32.ofNat t), .unset, .unset] [(.int (Int32.ofNat (t / 8))), (.ref r)])
  refine own_st (fun _ k => own_ldJ X0 hx hZ e0 V_r ⟨x3, x4⟩ (v := (.long (sv.getD (t / 8) 0))) (by rw [show (Int32.ofNat (t / 8)).toNatClampNeg = t / 8 from x5]; exact own_getD sv (t / 8)) rfl rfl (hb hby own_di_4) k) ?_
  show own_Go p e below _ s₁ (mkF m 5 #[rv r, iv (Int32.ofNat t), .unset, .unset] [(.long (sv.getD (t / 8) 0))])
  refine own_st (fun _ k => XT.lstoreN X0.here hx rfl (hb hby own_di_5) rfl (l' := #[rv r, iv (Int32.ofNat t), .val (.long (sv.getD (t / 8) 0)), .second]) rfl k) ?_
  show own_Go p e below _ s₁ (mkF m 6 #[rv r, iv (Int32.ofNat t), .val (.long (sv.getD (t / 8) 0)), .second] [])
  refine own_st (fun _ k => XT.lloadN X0.here hx rfl (hb hby own_di_6) rfl k) ?_
  show own_Go p e below _ s₁ (mkF m 7 #[rv r, iv (Int32.ofNat t), .val (.long (sv.getD (t / 8) 0)), .second] [(.long (sv.getD (t / 8) 0))])
  refine own_st (fun _ k => XS.iloadN X0.here hx rfl (hb hby own_di_7) rfl k) ?_
  show own_Go p e below _ s₁ (mkF m 8 #[rv r, iv (Int32.ofNat t), .val (.long (sv.getD (t / 8) 0)), .second] [(.int (Int32.ofNat t)), (.long (sv.getD (t / 8) 0))])
  refine own_st (fun _ k => XT.bipushV X0.here hx rfl (7 : Int32) (hb hby own_di_8) (by decide) k) ?_
  show own_Go p e below _ s₁ (mkF m 10 #[rv r, iv (Int32.ofNat t), .val (.long (sv.getD (t / 8) 0)), .second] [(.int 7), (.int (Int32.ofNat t)), (.long (sv.getD (t / 8) 0))])
  refine own_st (fun _ k => XS.iand X0.here hx rfl (hb hby own_di_10) rfl k) ?_
  show own_Go p e below _ s₁ (mkF m 11 #[rv r, iv (Int32.ofNat t), .val (.long (sv.getD (t / 8) 0)), .second] [(.int ((Int32.ofNat t) &&& 7)), (.long (sv.getD (t / 8) 0))])
  refine own_st (fun _ k => XT.bipushV X0.here hx rfl (8 : Int32) (hb hby own_di_11) (by decide) k) ?_
  show own_Go p e below _ s₁ (mkF m 13 #[rv r, iv (Int32.ofNat t), .val (.long (sv.getD (t / 8) 0)), .second] [(.int 8), (.int ((Int32.ofNat t) &&& 7)), (.long (sv.getD (t / 8) 0))])
  refine own_st (fun _ k => XS.imul X0.here hx rfl (hb hby own_di_13) rfl k) ?_
  show own_Go p e below _ s₁ (mkF m 14 #[rv r, iv (Int32.ofNat t), .val (.long (sv.getD (t / 8) 0)), .second] [(.int (((Int32.ofNat t) &&& 7) * 8)), (.long (sv.getD (t / 8) 0))])
  refine own_st (fun _ k => XT.lshl X0.here hx rfl (hb hby own_di_14) rfl k) ?_
  show own_Go p e below _ s₁ (mkF m 15 #[rv r, iv (Int32.ofNat t), .val (.long (sv.getD (t / 8) 0)), .second] [(.long ((sv.getD (t / 8) 0) <<< ((((Int32.ofNat t) &&& 7) * 8).toInt64 &&& 63)))])
  refine own_st (fun _ k => XT.bipushV X0.here hx rfl (56 : Int32) (hb hby own_di_15) (by decide) k) ?_
  show own_Go p e below _ s₁ (mkF m 17 #[rv r, iv (Int32.ofNat t), .val (.long (sv.getD (t / 8) 0)), .second] [(.int 56), (.long ((sv.getD (t / 8) 0) <<< ((((Int32.ofNat t) &&& 7) * 8).toInt64 &&& 63)))])
  refine own_st (fun _ k => XT.lushr X0.here hx rfl (hb hby own_di_17) rfl k) ?_
  show own_Go p e below _ s₁ (mkF m 18 #[rv r, iv (Int32.ofNat t), .val (.long (sv.getD (t / 8) 0)), .second] [(.long (XT.ushrL ((sv.getD (t / 8) 0) <<< ((((Int32.ofNat t) &&& 7) * 8).toInt64 &&& 63)) 56))])
  refine own_st (fun _ k => XT.l2i X0.here hx rfl (hb hby own_di_18) rfl k) ?_
  show own_Go p e below _ s₁ (mkF m 19 #[rv r, iv (Int32.ofNat t), .val (.long (sv.getD (t / 8) 0)), .second] [(.int (XT.ushrL ((sv.getD (t / 8) 0) <<< ((((Int32.ofNat t) &&& 7) * 8).toInt64 &&& 63)) 56).toInt32)])
  refine own_st (fun _ k => XT.i2b X0.here hx rfl (hb hby own_di_19) rfl k) ?_
  show own_Go p e below _ s₁ (mkF m 20 #[rv r, iv (Int32.ofNat t), .val (.long (sv.getD (t / 8) 0)), .second] [(.int (XT.ushrL ((sv.getD (t / 8) 0) <<< ((((Int32.ofNat t) &&& 7) * 8).toInt64 &&& 63)) 56).toInt32.toInt8.toInt32)])
  refine own_retN X0 hx Bd.notSynchronized (t := .byte) Bd.returns (by simp) (hb hby own_di_20) (by decide) (by decide) ?_
  rw [e0]
  exact ⟨congrArg (fun z => some (Value.int z)) (own_byte _), N0, rfl⟩
theorem own_ef_law (m : MethodId) (x0 : Int64) (x1 : Int64) (x2 : Int64) (x3 : Int64) (x4 : Int64) (x5 : Int32) : entryFrame m #[(.long x0), (.long x1), (.long x2), (.long x3), (.long x4), (.int x5)] maxLocals = mkF m 0 #[.val (.long x0), .second, .val (.long x1), .second, .val (.long x2), .second, .val (.long x3), .second, .val (.long x4), .second, .val (.int x5), .unset, .unset, .unset, .unset, .unset, .unset] [] := by first | (simp [entryFrame, mkF, argsToLocals, Value.category, maxLocals]; done) | rfl
def own_Q_law (Z : State) (pa : Int64) (pb : Int64) (pc_ : Int64) (pd : Int64) (pe : Int64) (pk : Int32) (ag : Addr) (sn : Addr) (dg : Int32) (h0 : Heap) (n0 : Nat) (v : Option Value) (h : Heap) (L : List Loc) : Prop := v = some (.int 1) ∧ Fr n0 L
set_option maxRecDepth 65536 in
set_option maxHeartbeats 40000000 in
theorem own_rm_law (l : Launch) (Z : State) (a0 : Array Value) (hw : ∀ d ∈ tables_1, d.before a0 Z = true) (ws : List Jvm.Cond) (pa : Int64) (pb : Int64) (pc_ : Int64) (pd : Int64) (pe : Int64) (pk : Int32) (ag : Addr) (sn : Addr) (dg : Int32) (h0 : Heap) (n0 : Nat) (Z0 : n0 ≤ h0.size) (O0 : Old Z n0 h0) (S_A : Sta Z Z.heap "com/example/hashwright/hashwright/Algorithm" "SHA_512" "Lcom/example/hashwright/hashwright/Algorithm;" (.ref ag)) (E_ag : Exa Z Z.heap ag "com/example/hashwright/hashwright/Algorithm") (F_sn : Fld Z Z.heap ag "com/example/hashwright/hashwright/Algorithm" "standardName" "Ljava/lang/String;" (.ref sn)) (F_dg : Fld Z Z.heap ag "com/example/hashwright/hashwright/Algorithm" "digestLength" "I" (.int dg)) :
    MetFree l x (head1 (Jvm.Cond.code x code maxLocals ret :: ws) room_1) (fun zz U => zz = #[(.long pa), (.long pb), (.long pc_), (.long pd), (.long pe), (.int pk)] ∧ Z.Warmed39 U.vm ∧ U.heap = h0) (fun _ _ _ _ _ => True) (fun _ U zo U' => ∃ v L, zo = .returned v ∧ own_Q_law Z pa pb pc_ pd pe pk ag sn dg h0 n0 v U'.heap L ∧ FrameEnd U zo U' L 24 704) := by
  refine MetFree.of_bodySF (plainFor_of_name own_pn5) hisR ?_
  intro p e s m args below meth c s₁ Bd hml0 hP hK
  obtain ⟨rfl, hZ, hh⟩ := hP
  have hx := Bd.exec
  have hby := Bd.bytes
  have hml : c.maxLocals = 17 := hml0
  have hown : s.vm.findClass "com/example/hashwright/hashwright/Sha512WriteStatePinLaw" = some m.cls := findClass_of_methodNamed Bd.named
  have hnm := (name_of_methodNamed Bd.named Bd.method).1
  have X0 : Stand p l e room_1 s m #[(.long pa), (.long pb), (.long pc_), (.long pd), (.long pe), (.int pk)] below meth c s₁ [] 0 0 := Stand.of_body Bd
  have e0 : s₁.heap = h0 := by rw [← hh, Bd.state]; rfl
  have N0 := Fr.nil n0
  show own_Go p e below (own_K s (own_Q_law Z pa pb pc_ pd pe pk ag sn dg h0 n0) 24 704) s₁ (entryFrame m #[(.long pa), (.long pb), (.long pc_), (.long pd), (.long pe), (.int pk)] maxLocals)
  rw [own_ef_law m pa pb pc_ pd pe pk]
  show own_Go p e below _ s₁ (mkF m 0 #[.val (.long pa), .second, .val (.long pb), .second, .val (.long pc_), .second, .val (.long pd), .second, .val (.long pe), .second, iv pk, .unset, .unset, .unset, .unset, .unset, .unset] [])
  refine own_st (fun _ k => XT.bipushV X0.here hx rfl (8 : Int32) (hb hby at_0) (by decide) k) ?_
  show own_Go p e below _ s₁ (mkF m 2 #[.val (.long pa), .second, .val (.long pb), .second, .val (.long pc_), .second, .val (.long pd), .second, .val (.long pe), .second, iv pk, .unset, .unset, .unset, .unset, .unset, .unset] [(.int 8)])
  obtain ⟨T1, h1, k_r1, X1, e1, x1, A1, Q1, st1⟩ := newPE X0 hx hZ (hw _ (List.mem_of_getElem? (i := 0) rfl)) e0 (g := (mkF m 2 #[.val (.long pa), .second, .val (.long pb), .second, .val (.long pc_), .second, .val (.long pd), .second, .val (.long pe), .second, iv pk, .unset, .unset, .unset, .unset, .unset, .unset] [(.int 8)])) rfl (hb hby at_2) rfl (by decide) (cap := 8) (by decide) (by decide) (by decide) (by decide) (ad := "[J") (by decide)
  obtain ⟨r1, g1⟩ : ∃ z, z = h0.size := ⟨_, rfl⟩
  rw [← g1] at A1 st1 Q1
  have g_r1 : n0 ≤ r1 := g1 ▸ Z0
  have O1 := O0.ext x1
  have Z1 : n0 ≤ h1.size := Nat.le_trans Z0 x1.1
  have V1_r1 : Arv Z h1 r1 k_r1 .long (8 : Int32) [(.long 0), (.long 0), (.long 0), (.long 0), (.long 0), (.long 0), (.long 0), (.long 0)] (.long 0) := (Arv.new A1 (by decide)).pad (pad_rep [] (.long 0) 8)
  refine own_st st1 ?_
  show own_Go p e below _ T1 (mkF m 4 #[.val (.long pa), .second, .val (.long pb), .second, .val (.long pc_), .second, .val (.long pd), .second, .val (.long pe), .second, iv pk, .unset, .unset, .unset, .unset, .unset, .unset] [(.ref r1)])
  refine own_st (fun _ k => XS.dup X1.here hx rfl (hb hby at_4) rfl rfl k) ?_
  show own_Go p e below _ T1 (mkF m 5 #[.val (.long pa), .second, .val (.long pb), .second, .val (.long pc_), .second, .val (.long pd), .second, .val (.long pe), .second, iv pk, .unset, .unset, .unset, .unset, .unset, .unset] [(.ref r1), (.ref r1)])
  refine own_st (fun _ k => XT.iconstV X1.here hx rfl (0 : Int32) (hb hby at_5) (by decide) k) ?_
  show own_Go p e below _ T1 (mkF m 6 #[.val (.long pa), .second, .val (.long pb), .second, .val (.long pc_), .second, .val (.long pd), .second, .val (.long pe), .second, iv pk, .unset, .unset, .unset, .unset, .unset, .unset] [(.int 0), (.ref r1), (.ref r1)])
  refine own_st (fun _ k => XT.lloadN X1.here hx rfl (hb hby at_6) rfl k) ?_
  show own_Go p e below _ T1 (mkF m 7 #[.val (.long pa), .second, .val (.long pb), .second, .val (.long pc_), .second, .val (.long pd), .second, .val (.long pe), .second, iv pk, .unset, .unset, .unset, .unset, .unset, .unset] [(.long pa), (.int 0), (.ref r1), (.ref r1)])
  obtain ⟨T2, h2, X2, e2, W2, V2, st2⟩ := own_stJ X1 hx hZ e1 V1_r1 (j := (0 : Int32)) ⟨by decide, by decide⟩ 0 rfl (Nat.le_of_ble_eq_true rfl) (g := (mkF m 7 #[.val (.long pa), .second, .val (.long pb), .second, .val (.long pc_), .second, .val (.long pd), .second, .val (.long pe), .second, iv pk, .unset, .unset, .unset, .unset, .unset, .unset] [(.long pa), (.int 0), (.ref r1), (.ref r1)])) rfl rfl (hb hby at_7)
  have V2_r1 : Arv Z h2 r1 k_r1 .long (8 : Int32) [(.long pa), (.long 0), (.long 0), (.long 0), (.long 0), (.long 0), (.long 0), (.long 0)] (.long 0) := V2
  have O2 := O1.wr W2 g_r1
  have E2_r1 := Q1.wr W2
  have Z2 : n0 ≤ h2.size := by rw [W2.size]; exact Z1
  have N2 := Fr.snoc X2 N0 g_r1
  refine own_st st2 ?_
  show own_Go p e below _ T2 (mkF m 8 #[.val (.long pa), .second, .val (.long pb), .second, .val (.long pc_), .second, .val (.long pd), .second, .val (.long pe), .second, iv pk, .unset, .unset, .unset, .unset, .unset, .unset] [(.ref r1)])
  refine own_st (fun _ k => XS.dup X2.here hx rfl (hb hby at_8) rfl rfl k) ?_
  show own_Go p e below _ T2 (mkF m 9 #[.val (.long pa), .second, .val (.long pb), .second, .val (.long pc_), .second, .val (.long pd), .second, .val (.long pe), .second, iv pk, .unset, .unset, .unset, .unset, .unset, .unset] [(.ref r1), (.ref r1)])
  refine own_st (fun _ k => XT.iconstV X2.here hx rfl (1 : Int32) (hb hby at_9) (by decide) k) ?_
  show own_Go p e below _ T2 (mkF m 10 #[.val (.long pa), .second, .val (.long pb), .second, .val (.long pc_), .second, .val (.long pd), .second, .val (.long pe), .second, iv pk, .unset, .unset, .unset, .unset, .unset, .unset] [(.int 1), (.ref r1), (.ref r1)])
  refine own_st (fun _ k => XT.lloadN X2.here hx rfl (hb hby at_10) rfl k) ?_
  show own_Go p e below _ T2 (mkF m 11 #[.val (.long pa), .second, .val (.long pb), .second, .val (.long pc_), .second, .val (.long pd), .second, .val (.long pe), .second, iv pk, .unset, .unset, .unset, .unset, .unset, .unset] [(.long pb), (.int 1), (.ref r1), (.ref r1)])
  obtain ⟨T3, h3, X3, e3, W3, V3, st3⟩ := own_stJ X2 hx hZ e2 V2_r1 (j := (1 : Int32)) ⟨by decide, by decide⟩ 1 rfl (Nat.le_of_ble_eq_true rfl) (g := (mkF m 11 #[.val (.long pa), .second, .val (.long pb), .second, .val (.long pc_), .second, .val (.long pd), .second, .val (.long pe), .second, iv pk, .unset, .unset, .unset, .unset, .unset, .unset] [(.long pb), (.int 1), (.ref r1), (.ref r1)])) rfl rfl (hb hby at_11)
  have V3_r1 : Arv Z h3 r1 k_r1 .long (8 : Int32) [(.long pa), (.long pb), (.long 0), (.long 0), (.long 0), (.long 0), (.long 0), (.long 0)] (.long 0) := V3
  have O3 := O2.wr W3 g_r1
  have E3_r1 := E2_r1.wr W3
  have Z3 : n0 ≤ h3.size := by rw [W3.size]; exact Z2
  have N3 := Fr.snoc X3 N2 g_r1
  refine own_st st3 ?_
  show own_Go p e below _ T3 (mkF m 12 #[.val (.long pa), .second, .val (.long pb), .second, .val (.long pc_), .second, .val (.long pd), .second, .val (.long pe), .second, iv pk, .unset, .unset, .unset, .unset, .unset, .unset] [(.ref r1)])
  refine own_st (fun _ k => XS.dup X3.here hx rfl (hb hby at_12) rfl rfl k) ?_
  show own_Go p e below _ T3 (mkF m 13 #[.val (.long pa), .second, .val (.long pb), .second, .val (.long pc_), .second, .val (.long pd), .second, .val (.long pe), .second, iv pk, .unset, .unset, .unset, .unset, .unset, .unset] [(.ref r1), (.ref r1)])
  refine own_st (fun _ k => XT.iconstV X3.here hx rfl (2 : Int32) (hb hby at_13) (by decide) k) ?_
  show own_Go p e below _ T3 (mkF m 14 #[.val (.long pa), .second, .val (.long pb), .second, .val (.long pc_), .second, .val (.long pd), .second, .val (.long pe), .second, iv pk, .unset, .unset, .unset, .unset, .unset, .unset] [(.int 2), (.ref r1), (.ref r1)])
  refine own_st (fun _ k => XT.lload X3.here hx rfl (hb hby at_14) rfl k) ?_
  show own_Go p e below _ T3 (mkF m 16 #[.val (.long pa), .second, .val (.long pb), .second, .val (.long pc_), .second, .val (.long pd), .second, .val (.long pe), .second, iv pk, .unset, .unset, .unset, .unset, .unset, .unset] [(.long pc_), (.int 2), (.ref r1), (.ref r1)])
  obtain ⟨T4, h4, X4, e4, W4, V4, st4⟩ := own_stJ X3 hx hZ e3 V3_r1 (j := (2 : Int32)) ⟨by decide, by decide⟩ 2 rfl (Nat.le_of_ble_eq_true rfl) (g := (mkF m 16 #[.val (.long pa), .second, .val (.long pb), .second, .val (.long pc_), .second, .val (.long pd), .second, .val (.long pe), .second, iv pk, .unset, .unset, .unset, .unset, .unset, .unset] [(.long pc_), (.int 2), (.ref r1), (.ref r1)])) rfl rfl (hb hby at_16)
  have V4_r1 : Arv Z h4 r1 k_r1 .long (8 : Int32) [(.long pa), (.long pb), (.long pc_), (.long 0), (.long 0), (.long 0), (.long 0), (.long 0)] (.long 0) := V4
  have O4 := O3.wr W4 g_r1
  have E4_r1 := E3_r1.wr W4
  have Z4 : n0 ≤ h4.size := by rw [W4.size]; exact Z3
  have N4 := Fr.snoc X4 N3 g_r1
  refine own_st st4 ?_
  show own_Go p e below _ T4 (mkF m 17 #[.val (.long pa), .second, .val (.long pb), .second, .val (.long pc_), .second, .val (.long pd), .second, .val (.long pe), .second, iv pk, .unset, .unset, .unset, .unset, .unset, .unset] [(.ref r1)])
  refine own_st (fun _ k => XS.dup X4.here hx rfl (hb hby at_17) rfl rfl k) ?_
  show own_Go p e below _ T4 (mkF m 18 #[.val (.long pa), .second, .val (.long pb), .second, .val (.long pc_), .second, .val (.long pd), .second, .val (.long pe), .second, iv pk, .unset, .unset, .unset, .unset, .unset, .unset] [(.ref r1), (.ref r1)])
  refine own_st (fun _ k => XT.iconstV X4.here hx rfl (3 : Int32) (hb hby at_18) (by decide) k) ?_
  show own_Go p e below _ T4 (mkF m 19 #[.val (.long pa), .second, .val (.long pb), .second, .val (.long pc_), .second, .val (.long pd), .second, .val (.long pe), .second, iv pk, .unset, .unset, .unset, .unset, .unset, .unset] [(.int 3), (.ref r1), (.ref r1)])
  refine own_st (fun _ k => XT.lload X4.here hx rfl (hb hby at_19) rfl k) ?_
  show own_Go p e below _ T4 (mkF m 21 #[.val (.long pa), .second, .val (.long pb), .second, .val (.long pc_), .second, .val (.long pd), .second, .val (.long pe), .second, iv pk, .unset, .unset, .unset, .unset, .unset, .unset] [(.long pd), (.int 3), (.ref r1), (.ref r1)])
  obtain ⟨T5, h5, X5, e5, W5, V5, st5⟩ := own_stJ X4 hx hZ e4 V4_r1 (j := (3 : Int32)) ⟨by decide, by decide⟩ 3 rfl (Nat.le_of_ble_eq_true rfl) (g := (mkF m 21 #[.val (.long pa), .second, .val (.long pb), .second, .val (.long pc_), .second, .val (.long pd), .second, .val (.long pe), .second, iv pk, .unset, .unset, .unset, .unset, .unset, .unset] [(.long pd), (.int 3), (.ref r1), (.ref r1)])) rfl rfl (hb hby at_21)
  have V5_r1 : Arv Z h5 r1 k_r1 .long (8 : Int32) [(.long pa), (.long pb), (.long pc_), (.long pd), (.long 0), (.long 0), (.long 0), (.long 0)] (.long 0) := V5
  have O5 := O4.wr W5 g_r1
  have E5_r1 := E4_r1.wr W5
  have Z5 : n0 ≤ h5.size := by rw [W5.size]; exact Z4
  have N5 := Fr.snoc X5 N4 g_r1
  refine own_st st5 ?_
  show own_Go p e below _ T5 (mkF m 22 #[.val (.long pa), .second, .val (.long pb), .second, .val (.long pc_), .second, .val (.long pd), .second, .val (.long pe), .second, iv pk, .unset, .unset, .unset, .unset, .unset, .unset] [(.ref r1)])
  refine own_st (fun _ k => XS.dup X5.here hx rfl (hb hby at_22) rfl rfl k) ?_
  show own_Go p e below _ T5 (mkF m 23 #[.val (.long pa), .second, .val (.long pb), .second, .val (.long pc_), .second, .val (.long pd), .second, .val (.long pe), .second, iv pk, .unset, .unset, .unset, .unset, .unset, .unset] [(.ref r1), (.ref r1)])
  refine own_st (fun _ k => XT.iconstV X5.here hx rfl (4 : Int32) (hb hby at_23) (by decide) k) ?_
  show own_Go p e below _ T5 (mkF m 24 #[.val (.long pa), .second, .val (.long pb), .second, .val (.long pc_), .second, .val (.long pd), .second, .val (.long pe), .second, iv pk, .unset, .unset, .unset, .unset, .unset, .unset] [(.int 4), (.ref r1), (.ref r1)])
  refine own_st (fun _ k => XT.lload X5.here hx rfl (hb hby at_24) rfl k) ?_
  show own_Go p e below _ T5 (mkF m 26 #[.val (.long pa), .second, .val (.long pb), .second, .val (.long pc_), .second, .val (.long pd), .second, .val (.long pe), .second, iv pk, .unset, .unset, .unset, .unset, .unset, .unset] [(.long pe), (.int 4), (.ref r1), (.ref r1)])
  obtain ⟨T6, h6, X6, e6, W6, V6, st6⟩ := own_stJ X5 hx hZ e5 V5_r1 (j := (4 : Int32)) ⟨by decide, by decide⟩ 4 rfl (Nat.le_of_ble_eq_true rfl) (g := (mkF m 26 #[.val (.long pa), .second, .val (.long pb), .second, .val (.long pc_), .second, .val (.long pd), .second, .val (.long pe), .second, iv pk, .unset, .unset, .unset, .unset, .unset, .unset] [(.long pe), (.int 4), (.ref r1), (.ref r1)])) rfl rfl (hb hby at_26)
  have V6_r1 : Arv Z h6 r1 k_r1 .long (8 : Int32) [(.long pa), (.long pb), (.long pc_), (.long pd), (.long pe), (.long 0), (.long 0), (.long 0)] (.long 0) := V6
  have O6 := O5.wr W6 g_r1
  have E6_r1 := E5_r1.wr W6
  have Z6 : n0 ≤ h6.size := by rw [W6.size]; exact Z5
  have N6 := Fr.snoc X6 N5 g_r1
  refine own_st st6 ?_
  show own_Go p e below _ T6 (mkF m 27 #[.val (.long pa), .second, .val (.long pb), .second, .val (.long pc_), .second, .val (.long pd), .second, .val (.long pe), .second, iv pk, .unset, .unset, .unset, .unset, .unset, .unset] [(.ref r1)])
  refine own_st (fun _ k => XS.dup X6.here hx rfl (hb hby at_27) rfl rfl k) ?_
  show own_Go p e below _ T6 (mkF m 28 #[.val (.long pa), .second, .val (.long pb), .second, .val (.long pc_), .second, .val (.long pd), .second, .val (.long pe), .second, iv pk, .unset, .unset, .unset, .unset, .unset, .unset] [(.ref r1), (.ref r1)])
  refine own_st (fun _ k => XT.iconstV X6.here hx rfl (5 : Int32) (hb hby at_28) (by decide) k) ?_
  show own_Go p e below _ T6 (mkF m 29 #[.val (.long pa), .second, .val (.long pb), .second, .val (.long pc_), .second, .val (.long pd), .second, .val (.long pe), .second, iv pk, .unset, .unset, .unset, .unset, .unset, .unset] [(.int 5), (.ref r1), (.ref r1)])
  refine own_st (fun _ k => XT.lloadN X6.here hx rfl (hb hby at_29) rfl k) ?_
  show own_Go p e below _ T6 (mkF m 30 #[.val (.long pa), .second, .val (.long pb), .second, .val (.long pc_), .second, .val (.long pd), .second, .val (.long pe), .second, iv pk, .unset, .unset, .unset, .unset, .unset, .unset] [(.long pa), (.int 5), (.ref r1), (.ref r1)])
  refine own_st (fun _ k => Jvm.Stand.ldc2J X6 hx hown (mvT hZ (hw _ (List.mem_of_getElem? (i := 1) rfl))) rfl (hb hby at_30) k) ?_
  show own_Go p e below _ T6 (mkF m 33 #[.val (.long pa), .second, .val (.long pb), .second, .val (.long pc_), .second, .val (.long pd), .second, .val (.long pe), .second, iv pk, .unset, .unset, .unset, .unset, .unset, .unset] [(.long (-1)), (.long pa), (.int 5), (.ref r1), (.ref r1)])
  refine own_st (fun _ k => XT.lxor X6.here hx rfl (hb hby at_33) rfl k) ?_
  show own_Go p e below _ T6 (mkF m 34 #[.val (.long pa), .second, .val (.long pb), .second, .val (.long pc_), .second, .val (.long pd), .second, .val (.long pe), .second, iv pk, .unset, .unset, .unset, .unset, .unset, .unset] [(.long (pa ^^^ (-1))), (.int 5), (.ref r1), (.ref r1)])
  obtain ⟨T7, h7, X7, e7, W7, V7, st7⟩ := own_stJ X6 hx hZ e6 V6_r1 (j := (5 : Int32)) ⟨by decide, by decide⟩ 5 rfl (Nat.le_of_ble_eq_true rfl) (g := (mkF m 34 #[.val (.long pa), .second, .val (.long pb), .second, .val (.long pc_), .second, .val (.long pd), .second, .val (.long pe), .second, iv pk, .unset, .unset, .unset, .unset, .unset, .unset] [(.long (pa ^^^ (-1))), (.int 5), (.ref r1), (.ref r1)])) rfl rfl (hb hby at_34)
  have V7_r1 : Arv Z h7 r1 k_r1 .long (8 : Int32) [(.long pa), (.long pb), (.long pc_), (.long pd), (.long pe), (.long (pa ^^^ (-1 : Int64))), (.long 0), (.long 0)] (.long 0) := V7
  have O7 := O6.wr W7 g_r1
  have E7_r1 := E6_r1.wr W7
  have Z7 : n0 ≤ h7.size := by rw [W7.size]; exact Z6
  have N7 := Fr.snoc X7 N6 g_r1
  refine own_st st7 ?_
  show own_Go p e below _ T7 (mkF m 35 #[.val (.long pa), .second, .val (.long pb), .second, .val (.long pc_), .second, .val (.long pd), .second, .val (.long pe), .second, iv pk, .unset, .unset, .unset, .unset, .unset, .unset] [(.ref r1)])
  refine own_st (fun _ k => XS.dup X7.here hx rfl (hb hby at_35) rfl rfl k) ?_
  show own_Go p e below _ T7 (mkF m 36 #[.val (.long pa), .second, .val (.long pb), .second, .val (.long pc_), .second, .val (.long pd), .second, .val (.long pe), .second, iv pk, .unset, .unset, .unset, .unset, .unset, .unset] [(.ref r1), (.ref r1)])
  refine own_st (fun _ k => XT.bipushV X7.here hx rfl (6 : Int32) (hb hby at_36) (by decide) k) ?_
  show own_Go p e below _ T7 (mkF m 38 #[.val (.long pa), .second, .val (.long pb), .second, .val (.long pc_), .second, .val (.long pd), .second, .val (.long pe), .second, iv pk, .unset, .unset, .unset, .unset, .unset, .unset] [(.int 6), (.ref r1), (.ref r1)])
  refine own_st (fun _ k => XT.lloadN X7.here hx rfl (hb hby at_38) rfl k) ?_
  show own_Go p e below _ T7 (mkF m 39 #[.val (.long pa), .second, .val (.long pb), .second, .val (.long pc_), .second, .val (.long pd), .second, .val (.long pe), .second, iv pk, .unset, .unset, .unset, .unset, .unset, .unset] [(.long pa), (.int 6), (.ref r1), (.ref r1)])
  refine own_st (fun _ k => XT.lload X7.here hx rfl (hb hby at_39) rfl k) ?_
  show own_Go p e below _ T7 (mkF m 41 #[.val (.long pa), .second, .val (.long pb), .second, .val (.long pc_), .second, .val (.long pd), .second, .val (.long pe), .second, iv pk, .unset, .unset, .unset, .unset, .unset, .unset] [(.long pd), (.long pa), (.int 6), (.ref r1), (.ref r1)])
  refine own_st (fun _ k => XT.lxor X7.here hx rfl (hb hby at_41) rfl k) ?_
  show own_Go p e below _ T7 (mkF m 42 #[.val (.long pa), .second, .val (.long pb), .second, .val (.long pc_), .second, .val (.long pd), .second, .val (.long pe), .second, iv pk, .unset, .unset, .unset, .unset, .unset, .unset] [(.long (pa ^^^ pd)), (.int 6), (.ref r1), (.ref r1)])
  obtain ⟨T8, h8, X8, e8, W8, V8, st8⟩ := own_stJ X7 hx hZ e7 V7_r1 (j := (6 : Int32)) ⟨by decide, by decide⟩ 6 rfl (Nat.le_of_ble_eq_true rfl) (g := (mkF m 42 #[.val (.long pa), .second, .val (.long pb), .second, .val (.long pc_), .second, .val (.long pd), .second, .val (.long pe), .second, iv pk, .unset, .unset, .unset, .unset, .unset, .unset] [(.long (pa ^^^ pd)), (.int 6), (.ref r1), (.ref r1)])) rfl rfl (hb hby at_42)
  have V8_r1 : Arv Z h8 r1 k_r1 .long (8 : Int32) [(.long pa), (.long pb), (.long pc_), (.long pd), (.long pe), (.long (pa ^^^ (-1 : Int64))), (.long (pa ^^^ pd)), (.long 0)] (.long 0) := V8
  have O8 := O7.wr W8 g_r1
  have E8_r1 := E7_r1.wr W8
  have Z8 : n0 ≤ h8.size := by rw [W8.size]; exact Z7
  have N8 := Fr.snoc X8 N7 g_r1
  refine own_st st8 ?_
  show own_Go p e below _ T8 (mkF m 43 #[.val (.long pa), .second, .val (.long pb), .second, .val (.long pc_), .second, .val (.long pd), .second, .val (.long pe), .second, iv pk, .unset, .unset, .unset, .unset, .unset, .unset] [(.ref r1)])
  refine own_st (fun _ k => XS.dup X8.here hx rfl (hb hby at_43) rfl rfl k) ?_
  show own_Go p e below _ T8 (mkF m 44 #[.val (.long pa), .second, .val (.long pb), .second, .val (.long pc_), .second, .val (.long pd), .second, .val (.long pe), .second, iv pk, .unset, .unset, .unset, .unset, .unset, .unset] [(.ref r1), (.ref r1)])
  refine own_st (fun _ k => XT.bipushV X8.here hx rfl (7 : Int32) (hb hby at_44) (by decide) k) ?_
  show own_Go p e below _ T8 (mkF m 46 #[.val (.long pa), .second, .val (.long pb), .second, .val (.long pc_), .second, .val (.long pd), .second, .val (.long pe), .second, iv pk, .unset, .unset, .unset, .unset, .unset, .unset] [(.int 7), (.ref r1), (.ref r1)])
  refine own_st (fun _ k => XT.lload X8.here hx rfl (hb hby at_46) rfl k) ?_
  show own_Go p e below _ T8 (mkF m 48 #[.val (.long pa), .second, .val (.long pb), .second, .val (.long pc_), .second, .val (.long pd), .second, .val (.long pe), .second, iv pk, .unset, .unset, .unset, .unset, .unset, .unset] [(.long pe), (.int 7), (.ref r1), (.ref r1)])
  refine own_st (fun _ k => XT.lneg X8.here hx rfl (hb hby at_48) rfl k) ?_
  show own_Go p e below _ T8 (mkF m 49 #[.val (.long pa), .second, .val (.long pb), .second, .val (.long pc_), .second, .val (.long pd), .second, .val (.long pe), .second, iv pk, .unset, .unset, .unset, .unset, .unset, .unset] [(.long (-pe)), (.int 7), (.ref r1), (.ref r1)])
  obtain ⟨T9, h9, X9, e9, W9, V9, st9⟩ := own_stJ X8 hx hZ e8 V8_r1 (j := (7 : Int32)) ⟨by decide, by decide⟩ 7 rfl (Nat.le_of_ble_eq_true rfl) (g := (mkF m 49 #[.val (.long pa), .second, .val (.long pb), .second, .val (.long pc_), .second, .val (.long pd), .second, .val (.long pe), .second, iv pk, .unset, .unset, .unset, .unset, .unset, .unset] [(.long (-pe)), (.int 7), (.ref r1), (.ref r1)])) rfl rfl (hb hby at_49)
  have V9_r1 : Arv Z h9 r1 k_r1 .long (8 : Int32) [(.long pa), (.long pb), (.long pc_), (.long pd), (.long pe), (.long (pa ^^^ (-1 : Int64))), (.long (pa ^^^ pd)), (.long (-pe))] (.long 0) := V9
  have O9 := O8.wr W9 g_r1
  have E9_r1 := E8_r1.wr W9
  have Z9 : n0 ≤ h9.size := by rw [W9.size]; exact Z8
  have N9 := Fr.snoc X9 N8 g_r1
  refine own_st st9 ?_
  show own_Go p e below _ T9 (mkF m 50 #[.val (.long pa), .second, .val (.long pb), .second, .val (.long pc_), .second, .val (.long pd), .second, .val (.long pe), .second, iv pk, .unset, .unset, .unset, .unset, .unset, .unset] [(.ref r1)])
  refine own_st (fun _ k => XS.astore X9.here hx rfl (hb hby at_50) rfl rfl (l' := #[.val (.long pa), .second, .val (.long pb), .second, .val (.long pc_), .second, .val (.long pd), .second, .val (.long pe), .second, iv pk, rv r1, .unset, .unset, .unset, .unset, .unset]) rfl k) ?_
  show own_Go p e below _ T9 (mkF m 52 #[.val (.long pa), .second, .val (.long pb), .second, .val (.long pc_), .second, .val (.long pd), .second, .val (.long pe), .second, iv pk, rv r1, .unset, .unset, .unset, .unset, .unset] [])
  refine own_st (fun _ k => XT.bipushV X9.here hx rfl (8 : Int32) (hb hby at_52) (by decide) k) ?_
  show own_Go p e below _ T9 (mkF m 54 #[.val (.long pa), .second, .val (.long pb), .second, .val (.long pc_), .second, .val (.long pd), .second, .val (.long pe), .second, iv pk, rv r1, .unset, .unset, .unset, .unset, .unset] [(.int 8)])
  obtain ⟨T10, h10, k_r2, X10, e10, x10, A10, st10⟩ := newP X9 hx hZ (hw _ (List.mem_of_getElem? (i := 0) rfl)) e9 (g := (mkF m 54 #[.val (.long pa), .second, .val (.long pb), .second, .val (.long pc_), .second, .val (.long pd), .second, .val (.long pe), .second, iv pk, rv r1, .unset, .unset, .unset, .unset, .unset] [(.int 8)])) rfl (hb hby at_54) rfl (by decide) (cap := 8) (by decide) (by decide) (by decide) (by decide)
  obtain ⟨r2, g10⟩ : ∃ z, z = h9.size := ⟨_, rfl⟩
  rw [← g10] at A10 st10
  have ne_r1_r2 : r1 ≠ r2 := g10 ▸ Nat.ne_of_lt V9_r1.lt
  have g_r2 : n0 ≤ r2 := g10 ▸ Z9
  have O10 := O9.ext x10
  have V10_r1 := V9_r1.ext x10
  have E10_r1 := E9_r1.ext x10
  have Z10 : n0 ≤ h10.size := Nat.le_trans Z9 x10.1
  have V10_r2 : Arv Z h10 r2 k_r2 .long (8 : Int32) [(.long 0), (.long 0), (.long 0), (.long 0), (.long 0), (.long 0), (.long 0), (.long 0)] (.long 0) := (Arv.new A10 (by decide)).pad (pad_rep [] (.long 0) 8)
  refine own_st st10 ?_
  show own_Go p e below _ T10 (mkF m 56 #[.val (.long pa), .second, .val (.long pb), .second, .val (.long pc_), .second, .val (.long pd), .second, .val (.long pe), .second, iv pk, rv r1, .unset, .unset, .unset, .unset, .unset] [(.ref r2)])
  refine own_st (fun _ k => XS.dup X10.here hx rfl (hb hby at_56) rfl rfl k) ?_
  show own_Go p e below _ T10 (mkF m 57 #[.val (.long pa), .second, .val (.long pb), .second, .val (.long pc_), .second, .val (.long pd), .second, .val (.long pe), .second, iv pk, rv r1, .unset, .unset, .unset, .unset, .unset] [(.ref r2), (.ref r2)])
  refine own_st (fun _ k => XT.iconstV X10.here hx rfl (0 : Int32) (hb hby at_57) (by decide) k) ?_
  show own_Go p e below _ T10 (mkF m 58 #[.val (.long pa), .second, .val (.long pb), .second, .val (.long pc_), .second, .val (.long pd), .second, .val (.long pe), .second, iv pk, rv r1, .unset, .unset, .unset, .unset, .unset] [(.int 0), (.ref r2), (.ref r2)])
  refine own_st (fun _ k => XT.lloadN X10.here hx rfl (hb hby at_58) rfl k) ?_
  show own_Go p e below _ T10 (mkF m 59 #[.val (.long pa), .second, .val (.long pb), .second, .val (.long pc_), .second, .val (.long pd), .second, .val (.long pe), .second, iv pk, rv r1, .unset, .unset, .unset, .unset, .unset] [(.long pa), (.int 0), (.ref r2), (.ref r2)])
  obtain ⟨T11, h11, X11, e11, W11, V11, st11⟩ := own_stJ X10 hx hZ e10 V10_r2 (j := (0 : Int32)) ⟨by decide, by decide⟩ 0 rfl (Nat.le_of_ble_eq_true rfl) (g := (mkF m 59 #[.val (.long pa), .second, .val (.long pb), .second, .val (.long pc_), .second, .val (.long pd), .second, .val (.long pe), .second, iv pk, rv r1, .unset, .unset, .unset, .unset, .unset] [(.long pa), (.int 0), (.ref r2), (.ref r2)])) rfl rfl (hb hby at_59)
  have V11_r2 : Arv Z h11 r2 k_r2 .long (8 : Int32) [(.long pa), (.long 0), (.long 0), (.long 0), (.long 0), (.long 0), (.long 0), (.long 0)] (.long 0) := V11
  have O11 := O10.wr W11 g_r2
  have V11_r1 := V10_r1.other W11 ne_r1_r2
  have E11_r1 := E10_r1.wr W11
  have Z11 : n0 ≤ h11.size := by rw [W11.size]; exact Z10
  have N11 := Fr.snoc X11 N9 g_r2
  refine own_st st11 ?_
  show own_Go p e below _ T11 (mkF m 60 #[.val (.long pa), .second, .val (.long pb), .second, .val (.long pc_), .second, .val (.long pd), .second, .val (.long pe), .second, iv pk, rv r1, .unset, .unset, .unset, .unset, .unset] [(.ref r2)])
  refine own_st (fun _ k => XS.dup X11.here hx rfl (hb hby at_60) rfl rfl k) ?_
  show own_Go p e below _ T11 (mkF m 61 #[.val (.long pa), .second, .val (.long pb), .second, .val (.long pc_), .second, .val (.long pd), .second, .val (.long pe), .second, iv pk, rv r1, .unset, .unset, .unset, .unset, .unset] [(.ref r2), (.ref r2)])
  refine own_st (fun _ k => XT.iconstV X11.here hx rfl (1 : Int32) (hb hby at_61) (by decide) k) ?_
  show own_Go p e below _ T11 (mkF m 62 #[.val (.long pa), .second, .val (.long pb), .second, .val (.long pc_), .second, .val (.long pd), .second, .val (.long pe), .second, iv pk, rv r1, .unset, .unset, .unset, .unset, .unset] [(.int 1), (.ref r2), (.ref r2)])
  refine own_st (fun _ k => XT.lloadN X11.here hx rfl (hb hby at_62) rfl k) ?_
  show own_Go p e below _ T11 (mkF m 63 #[.val (.long pa), .second, .val (.long pb), .second, .val (.long pc_), .second, .val (.long pd), .second, .val (.long pe), .second, iv pk, rv r1, .unset, .unset, .unset, .unset, .unset] [(.long pb), (.int 1), (.ref r2), (.ref r2)])
  obtain ⟨T12, h12, X12, e12, W12, V12, st12⟩ := own_stJ X11 hx hZ e11 V11_r2 (j := (1 : Int32)) ⟨by decide, by decide⟩ 1 rfl (Nat.le_of_ble_eq_true rfl) (g := (mkF m 63 #[.val (.long pa), .second, .val (.long pb), .second, .val (.long pc_), .second, .val (.long pd), .second, .val (.long pe), .second, iv pk, rv r1, .unset, .unset, .unset, .unset, .unset] [(.long pb), (.int 1), (.ref r2), (.ref r2)])) rfl rfl (hb hby at_63)
  have V12_r2 : Arv Z h12 r2 k_r2 .long (8 : Int32) [(.long pa), (.long pb), (.long 0), (.long 0), (.long 0), (.long 0), (.long 0), (.long 0)] (.long 0) := V12
  have O12 := O11.wr W12 g_r2
  have V12_r1 := V11_r1.other W12 ne_r1_r2
  have E12_r1 := E11_r1.wr W12
  have Z12 : n0 ≤ h12.size := by rw [W12.size]; exact Z11
  have N12 := Fr.snoc X12 N11 g_r2
  refine own_st st12 ?_
  show own_Go p e below _ T12 (mkF m 64 #[.val (.long pa), .second, .val (.long pb), .second, .val (.long pc_), .second, .val (.long pd), .second, .val (.long pe), .second, iv pk, rv r1, .unset, .unset, .unset, .unset, .unset] [(.ref r2)])
  refine own_st (fun _ k => XS.dup X12.here hx rfl (hb hby at_64) rfl rfl k) ?_
  show own_Go p e below _ T12 (mkF m 65 #[.val (.long pa), .second, .val (.long pb), .second, .val (.long pc_), .second, .val (.long pd), .second, .val (.long pe), .second, iv pk, rv r1, .unset, .unset, .unset, .unset, .unset] [(.ref r2), (.ref r2)])
  refine own_st (fun _ k => XT.iconstV X12.here hx rfl (2 : Int32) (hb hby at_65) (by decide) k) ?_
  show own_Go p e below _ T12 (mkF m 66 #[.val (.long pa), .second, .val (.long pb), .second, .val (.long pc_), .second, .val (.long pd), .second, .val (.long pe), .second, iv pk, rv r1, .unset, .unset, .unset, .unset, .unset] [(.int 2), (.ref r2), (.ref r2)])
  refine own_st (fun _ k => XT.lload X12.here hx rfl (hb hby at_66) rfl k) ?_
  show own_Go p e below _ T12 (mkF m 68 #[.val (.long pa), .second, .val (.long pb), .second, .val (.long pc_), .second, .val (.long pd), .second, .val (.long pe), .second, iv pk, rv r1, .unset, .unset, .unset, .unset, .unset] [(.long pc_), (.int 2), (.ref r2), (.ref r2)])
  obtain ⟨T13, h13, X13, e13, W13, V13, st13⟩ := own_stJ X12 hx hZ e12 V12_r2 (j := (2 : Int32)) ⟨by decide, by decide⟩ 2 rfl (Nat.le_of_ble_eq_true rfl) (g := (mkF m 68 #[.val (.long pa), .second, .val (.long pb), .second, .val (.long pc_), .second, .val (.long pd), .second, .val (.long pe), .second, iv pk, rv r1, .unset, .unset, .unset, .unset, .unset] [(.long pc_), (.int 2), (.ref r2), (.ref r2)])) rfl rfl (hb hby at_68)
  have V13_r2 : Arv Z h13 r2 k_r2 .long (8 : Int32) [(.long pa), (.long pb), (.long pc_), (.long 0), (.long 0), (.long 0), (.long 0), (.long 0)] (.long 0) := V13
  have O13 := O12.wr W13 g_r2
  have V13_r1 := V12_r1.other W13 ne_r1_r2
  have E13_r1 := E12_r1.wr W13
  have Z13 : n0 ≤ h13.size := by rw [W13.size]; exact Z12
  have N13 := Fr.snoc X13 N12 g_r2
  refine own_st st13 ?_
  show own_Go p e below _ T13 (mkF m 69 #[.val (.long pa), .second, .val (.long pb), .second, .val (.long pc_), .second, .val (.long pd), .second, .val (.long pe), .second, iv pk, rv r1, .unset, .unset, .unset, .unset, .unset] [(.ref r2)])
  refine own_st (fun _ k => XS.dup X13.here hx rfl (hb hby at_69) rfl rfl k) ?_
  show own_Go p e below _ T13 (mkF m 70 #[.val (.long pa), .second, .val (.long pb), .second, .val (.long pc_), .second, .val (.long pd), .second, .val (.long pe), .second, iv pk, rv r1, .unset, .unset, .unset, .unset, .unset] [(.ref r2), (.ref r2)])
  refine own_st (fun _ k => XT.iconstV X13.here hx rfl (3 : Int32) (hb hby at_70) (by decide) k) ?_
  show own_Go p e below _ T13 (mkF m 71 #[.val (.long pa), .second, .val (.long pb), .second, .val (.long pc_), .second, .val (.long pd), .second, .val (.long pe), .second, iv pk, rv r1, .unset, .unset, .unset, .unset, .unset] [(.int 3), (.ref r2), (.ref r2)])
  refine own_st (fun _ k => XT.lload X13.here hx rfl (hb hby at_71) rfl k) ?_
  show own_Go p e below _ T13 (mkF m 73 #[.val (.long pa), .second, .val (.long pb), .second, .val (.long pc_), .second, .val (.long pd), .second, .val (.long pe), .second, iv pk, rv r1, .unset, .unset, .unset, .unset, .unset] [(.long pd), (.int 3), (.ref r2), (.ref r2)])
  obtain ⟨T14, h14, X14, e14, W14, V14, st14⟩ := own_stJ X13 hx hZ e13 V13_r2 (j := (3 : Int32)) ⟨by decide, by decide⟩ 3 rfl (Nat.le_of_ble_eq_true rfl) (g := (mkF m 73 #[.val (.long pa), .second, .val (.long pb), .second, .val (.long pc_), .second, .val (.long pd), .second, .val (.long pe), .second, iv pk, rv r1, .unset, .unset, .unset, .unset, .unset] [(.long pd), (.int 3), (.ref r2), (.ref r2)])) rfl rfl (hb hby at_73)
  have V14_r2 : Arv Z h14 r2 k_r2 .long (8 : Int32) [(.long pa), (.long pb), (.long pc_), (.long pd), (.long 0), (.long 0), (.long 0), (.long 0)] (.long 0) := V14
  have O14 := O13.wr W14 g_r2
  have V14_r1 := V13_r1.other W14 ne_r1_r2
  have E14_r1 := E13_r1.wr W14
  have Z14 : n0 ≤ h14.size := by rw [W14.size]; exact Z13
  have N14 := Fr.snoc X14 N13 g_r2
  refine own_st st14 ?_
  show own_Go p e below _ T14 (mkF m 74 #[.val (.long pa), .second, .val (.long pb), .second, .val (.long pc_), .second, .val (.long pd), .second, .val (.long pe), .second, iv pk, rv r1, .unset, .unset, .unset, .unset, .unset] [(.ref r2)])
  refine own_st (fun _ k => XS.dup X14.here hx rfl (hb hby at_74) rfl rfl k) ?_
  show own_Go p e below _ T14 (mkF m 75 #[.val (.long pa), .second, .val (.long pb), .second, .val (.long pc_), .second, .val (.long pd), .second, .val (.long pe), .second, iv pk, rv r1, .unset, .unset, .unset, .unset, .unset] [(.ref r2), (.ref r2)])
  refine own_st (fun _ k => XT.iconstV X14.here hx rfl (4 : Int32) (hb hby at_75) (by decide) k) ?_
  show own_Go p e below _ T14 (mkF m 76 #[.val (.long pa), .second, .val (.long pb), .second, .val (.long pc_), .second, .val (.long pd), .second, .val (.long pe), .second, iv pk, rv r1, .unset, .unset, .unset, .unset, .unset] [(.int 4), (.ref r2), (.ref r2)])
  refine own_st (fun _ k => XT.lload X14.here hx rfl (hb hby at_76) rfl k) ?_
  show own_Go p e below _ T14 (mkF m 78 #[.val (.long pa), .second, .val (.long pb), .second, .val (.long pc_), .second, .val (.long pd), .second, .val (.long pe), .second, iv pk, rv r1, .unset, .unset, .unset, .unset, .unset] [(.long pe), (.int 4), (.ref r2), (.ref r2)])
  obtain ⟨T15, h15, X15, e15, W15, V15, st15⟩ := own_stJ X14 hx hZ e14 V14_r2 (j := (4 : Int32)) ⟨by decide, by decide⟩ 4 rfl (Nat.le_of_ble_eq_true rfl) (g := (mkF m 78 #[.val (.long pa), .second, .val (.long pb), .second, .val (.long pc_), .second, .val (.long pd), .second, .val (.long pe), .second, iv pk, rv r1, .unset, .unset, .unset, .unset, .unset] [(.long pe), (.int 4), (.ref r2), (.ref r2)])) rfl rfl (hb hby at_78)
  have V15_r2 : Arv Z h15 r2 k_r2 .long (8 : Int32) [(.long pa), (.long pb), (.long pc_), (.long pd), (.long pe), (.long 0), (.long 0), (.long 0)] (.long 0) := V15
  have O15 := O14.wr W15 g_r2
  have V15_r1 := V14_r1.other W15 ne_r1_r2
  have E15_r1 := E14_r1.wr W15
  have Z15 : n0 ≤ h15.size := by rw [W15.size]; exact Z14
  have N15 := Fr.snoc X15 N14 g_r2
  refine own_st st15 ?_
  show own_Go p e below _ T15 (mkF m 79 #[.val (.long pa), .second, .val (.long pb), .second, .val (.long pc_), .second, .val (.long pd), .second, .val (.long pe), .second, iv pk, rv r1, .unset, .unset, .unset, .unset, .unset] [(.ref r2)])
  refine own_st (fun _ k => XS.dup X15.here hx rfl (hb hby at_79) rfl rfl k) ?_
  show own_Go p e below _ T15 (mkF m 80 #[.val (.long pa), .second, .val (.long pb), .second, .val (.long pc_), .second, .val (.long pd), .second, .val (.long pe), .second, iv pk, rv r1, .unset, .unset, .unset, .unset, .unset] [(.ref r2), (.ref r2)])
  refine own_st (fun _ k => XT.iconstV X15.here hx rfl (5 : Int32) (hb hby at_80) (by decide) k) ?_
  show own_Go p e below _ T15 (mkF m 81 #[.val (.long pa), .second, .val (.long pb), .second, .val (.long pc_), .second, .val (.long pd), .second, .val (.long pe), .second, iv pk, rv r1, .unset, .unset, .unset, .unset, .unset] [(.int 5), (.ref r2), (.ref r2)])
  refine own_st (fun _ k => XT.lloadN X15.here hx rfl (hb hby at_81) rfl k) ?_
  show own_Go p e below _ T15 (mkF m 82 #[.val (.long pa), .second, .val (.long pb), .second, .val (.long pc_), .second, .val (.long pd), .second, .val (.long pe), .second, iv pk, rv r1, .unset, .unset, .unset, .unset, .unset] [(.long pa), (.int 5), (.ref r2), (.ref r2)])
  refine own_st (fun _ k => Jvm.Stand.ldc2J X15 hx hown (mvT hZ (hw _ (List.mem_of_getElem? (i := 1) rfl))) rfl (hb hby at_82) k) ?_
  show own_Go p e below _ T15 (mkF m 85 #[.val (.long pa), .second, .val (.long pb), .second, .val (.long pc_), .second, .val (.long pd), .second, .val (.long pe), .second, iv pk, rv r1, .unset, .unset, .unset, .unset, .unset] [(.long (-1)), (.long pa), (.int 5), (.ref r2), (.ref r2)])
  refine own_st (fun _ k => XT.lxor X15.here hx rfl (hb hby at_85) rfl k) ?_
  show own_Go p e below _ T15 (mkF m 86 #[.val (.long pa), .second, .val (.long pb), .second, .val (.long pc_), .second, .val (.long pd), .second, .val (.long pe), .second, iv pk, rv r1, .unset, .unset, .unset, .unset, .unset] [(.long (pa ^^^ (-1))), (.int 5), (.ref r2), (.ref r2)])
  obtain ⟨T16, h16, X16, e16, W16, V16, st16⟩ := own_stJ X15 hx hZ e15 V15_r2 (j := (5 : Int32)) ⟨by decide, by decide⟩ 5 rfl (Nat.le_of_ble_eq_true rfl) (g := (mkF m 86 #[.val (.long pa), .second, .val (.long pb), .second, .val (.long pc_), .second, .val (.long pd), .second, .val (.long pe), .second, iv pk, rv r1, .unset, .unset, .unset, .unset, .unset] [(.long (pa ^^^ (-1))), (.int 5), (.ref r2), (.ref r2)])) rfl rfl (hb hby at_86)
  have V16_r2 : Arv Z h16 r2 k_r2 .long (8 : Int32) [(.long pa), (.long pb), (.long pc_), (.long pd), (.long pe), (.long (pa ^^^ (-1 : Int64))), (.long 0), (.long 0)] (.long 0) := V16
  have O16 := O15.wr W16 g_r2
  have V16_r1 := V15_r1.other W16 ne_r1_r2
  have E16_r1 := E15_r1.wr W16
  have Z16 : n0 ≤ h16.size := by rw [W16.size]; exact Z15
  have N16 := Fr.snoc X16 N15 g_r2
  refine own_st st16 ?_
  show own_Go p e below _ T16 (mkF m 87 #[.val (.long pa), .second, .val (.long pb), .second, .val (.long pc_), .second, .val (.long pd), .second, .val (.long pe), .second, iv pk, rv r1, .unset, .unset, .unset, .unset, .unset] [(.ref r2)])
  refine own_st (fun _ k => XS.dup X16.here hx rfl (hb hby at_87) rfl rfl k) ?_
  show own_Go p e below _ T16 (mkF m 88 #[.val (.long pa), .second, .val (.long pb), .second, .val (.long pc_), .second, .val (.long pd), .second, .val (.long pe), .second, iv pk, rv r1, .unset, .unset, .unset, .unset, .unset] [(.ref r2), (.ref r2)])
  refine own_st (fun _ k => XT.bipushV X16.here hx rfl (6 : Int32) (hb hby at_88) (by decide) k) ?_
  show own_Go p e below _ T16 (mkF m 90 #[.val (.long pa), .second, .val (.long pb), .second, .val (.long pc_), .second, .val (.long pd), .second, .val (.long pe), .second, iv pk, rv r1, .unset, .unset, .unset, .unset, .unset] [(.int 6), (.ref r2), (.ref r2)])
  refine own_st (fun _ k => XT.lloadN X16.here hx rfl (hb hby at_90) rfl k) ?_
  show own_Go p e below _ T16 (mkF m 91 #[.val (.long pa), .second, .val (.long pb), .second, .val (.long pc_), .second, .val (.long pd), .second, .val (.long pe), .second, iv pk, rv r1, .unset, .unset, .unset, .unset, .unset] [(.long pa), (.int 6), (.ref r2), (.ref r2)])
  refine own_st (fun _ k => XT.lload X16.here hx rfl (hb hby at_91) rfl k) ?_
  show own_Go p e below _ T16 (mkF m 93 #[.val (.long pa), .second, .val (.long pb), .second, .val (.long pc_), .second, .val (.long pd), .second, .val (.long pe), .second, iv pk, rv r1, .unset, .unset, .unset, .unset, .unset] [(.long pd), (.long pa), (.int 6), (.ref r2), (.ref r2)])
  refine own_st (fun _ k => XT.lxor X16.here hx rfl (hb hby at_93) rfl k) ?_
  show own_Go p e below _ T16 (mkF m 94 #[.val (.long pa), .second, .val (.long pb), .second, .val (.long pc_), .second, .val (.long pd), .second, .val (.long pe), .second, iv pk, rv r1, .unset, .unset, .unset, .unset, .unset] [(.long (pa ^^^ pd)), (.int 6), (.ref r2), (.ref r2)])
  obtain ⟨T17, h17, X17, e17, W17, V17, st17⟩ := own_stJ X16 hx hZ e16 V16_r2 (j := (6 : Int32)) ⟨by decide, by decide⟩ 6 rfl (Nat.le_of_ble_eq_true rfl) (g := (mkF m 94 #[.val (.long pa), .second, .val (.long pb), .second, .val (.long pc_), .second, .val (.long pd), .second, .val (.long pe), .second, iv pk, rv r1, .unset, .unset, .unset, .unset, .unset] [(.long (pa ^^^ pd)), (.int 6), (.ref r2), (.ref r2)])) rfl rfl (hb hby at_94)
  have V17_r2 : Arv Z h17 r2 k_r2 .long (8 : Int32) [(.long pa), (.long pb), (.long pc_), (.long pd), (.long pe), (.long (pa ^^^ (-1 : Int64))), (.long (pa ^^^ pd)), (.long 0)] (.long 0) := V17
  have O17 := O16.wr W17 g_r2
  have V17_r1 := V16_r1.other W17 ne_r1_r2
  have E17_r1 := E16_r1.wr W17
  have Z17 : n0 ≤ h17.size := by rw [W17.size]; exact Z16
  have N17 := Fr.snoc X17 N16 g_r2
  refine own_st st17 ?_
  show own_Go p e below _ T17 (mkF m 95 #[.val (.long pa), .second, .val (.long pb), .second, .val (.long pc_), .second, .val (.long pd), .second, .val (.long pe), .second, iv pk, rv r1, .unset, .unset, .unset, .unset, .unset] [(.ref r2)])
  refine own_st (fun _ k => XS.dup X17.here hx rfl (hb hby at_95) rfl rfl k) ?_
  show own_Go p e below _ T17 (mkF m 96 #[.val (.long pa), .second, .val (.long pb), .second, .val (.long pc_), .second, .val (.long pd), .second, .val (.long pe), .second, iv pk, rv r1, .unset, .unset, .unset, .unset, .unset] [(.ref r2), (.ref r2)])
  refine own_st (fun _ k => XT.bipushV X17.here hx rfl (7 : Int32) (hb hby at_96) (by decide) k) ?_
  show own_Go p e below _ T17 (mkF m 98 #[.val (.long pa), .second, .val (.long pb), .second, .val (.long pc_), .second, .val (.long pd), .second, .val (.long pe), .second, iv pk, rv r1, .unset, .unset, .unset, .unset, .unset] [(.int 7), (.ref r2), (.ref r2)])
  refine own_st (fun _ k => XT.lload X17.here hx rfl (hb hby at_98) rfl k) ?_
  show own_Go p e below _ T17 (mkF m 100 #[.val (.long pa), .second, .val (.long pb), .second, .val (.long pc_), .second, .val (.long pd), .second, .val (.long pe), .second, iv pk, rv r1, .unset, .unset, .unset, .unset, .unset] [(.long pe), (.int 7), (.ref r2), (.ref r2)])
  refine own_st (fun _ k => XT.lneg X17.here hx rfl (hb hby at_100) rfl k) ?_
  show own_Go p e below _ T17 (mkF m 101 #[.val (.long pa), .second, .val (.long pb), .second, .val (.long pc_), .second, .val (.long pd), .second, .val (.long pe), .second, iv pk, rv r1, .unset, .unset, .unset, .unset, .unset] [(.long (-pe)), (.int 7), (.ref r2), (.ref r2)])
  obtain ⟨T18, h18, X18, e18, W18, V18, st18⟩ := own_stJ X17 hx hZ e17 V17_r2 (j := (7 : Int32)) ⟨by decide, by decide⟩ 7 rfl (Nat.le_of_ble_eq_true rfl) (g := (mkF m 101 #[.val (.long pa), .second, .val (.long pb), .second, .val (.long pc_), .second, .val (.long pd), .second, .val (.long pe), .second, iv pk, rv r1, .unset, .unset, .unset, .unset, .unset] [(.long (-pe)), (.int 7), (.ref r2), (.ref r2)])) rfl rfl (hb hby at_101)
  have V18_r2 : Arv Z h18 r2 k_r2 .long (8 : Int32) [(.long pa), (.long pb), (.long pc_), (.long pd), (.long pe), (.long (pa ^^^ (-1 : Int64))), (.long (pa ^^^ pd)), (.long (-pe))] (.long 0) := V18
  have O18 := O17.wr W18 g_r2
  have V18_r1 := V17_r1.other W18 ne_r1_r2
  have E18_r1 := E17_r1.wr W18
  have Z18 : n0 ≤ h18.size := by rw [W18.size]; exact Z17
  have N18 := Fr.snoc X18 N17 g_r2
  refine own_st st18 ?_
  show own_Go p e below _ T18 (mkF m 102 #[.val (.long pa), .second, .val (.long pb), .second, .val (.long pc_), .second, .val (.long pd), .second, .val (.long pe), .second, iv pk, rv r1, .unset, .unset, .unset, .unset, .unset] [(.ref r2)])
  refine own_st (fun _ k => XS.astore X18.here hx rfl (hb hby at_102) rfl rfl (l' := #[.val (.long pa), .second, .val (.long pb), .second, .val (.long pc_), .second, .val (.long pd), .second, .val (.long pe), .second, iv pk, rv r1, rv r2, .unset, .unset, .unset, .unset]) rfl k) ?_
  show own_Go p e below _ T18 (mkF m 104 #[.val (.long pa), .second, .val (.long pb), .second, .val (.long pc_), .second, .val (.long pd), .second, .val (.long pe), .second, iv pk, rv r1, rv r2, .unset, .unset, .unset, .unset] [])
  obtain ⟨T19, h19, X19, e19, x19, A19, D19, -, st19⟩ := newO X18 hx hZ hown (hw _ (List.mem_of_getElem? (i := 2) rfl)) (hw _ (List.mem_of_getElem? (i := 3) rfl)) (hw _ (List.mem_of_getElem? (i := 4) rfl)) e18 (g := (mkF m 104 #[.val (.long pa), .second, .val (.long pb), .second, .val (.long pc_), .second, .val (.long pd), .second, .val (.long pe), .second, iv pk, rv r1, rv r2, .unset, .unset, .unset, .unset] [])) rfl (hb hby at_104) (by decide) (by decide)
  obtain ⟨o1, g19⟩ : ∃ z, z = h18.size := ⟨_, rfl⟩
  rw [← g19] at A19 D19 st19
  have ne_r1_o1 : r1 ≠ o1 := g19 ▸ Nat.ne_of_lt V18_r1.lt
  have ne_r2_o1 : r2 ≠ o1 := g19 ▸ Nat.ne_of_lt V18_r2.lt
  have g_o1 : n0 ≤ o1 := g19 ▸ Z18
  have O19 := O18.ext x19
  have V19_r1 := V18_r1.ext x19
  have V19_r2 := V18_r2.ext x19
  have E19_r1 := E18_r1.ext x19
  have Z19 : n0 ≤ h19.size := Nat.le_trans Z18 x19.1
  have F19_block_o1 : Fld Z h19 o1 "com/example/hashwright/hashwright/BlockHasher" "block" "[B" .null := D19 (Or.inr (hw _ (List.mem_of_getElem? (i := 48) rfl))) (ty := .array .byte) (by decide)
  have F19_algorithm_o1 : Fld Z h19 o1 "com/example/hashwright/hashwright/BlockDigest" "algorithm" "Ljava/lang/String;" .null := D19 (Or.inr (hw _ (List.mem_of_getElem? (i := 50) rfl))) (ty := .object "java/lang/String") (by decide)
  have F19_digestLength_o1 : Fld Z h19 o1 "com/example/hashwright/hashwright/BlockDigest" "digestLength" "I" (.int (0 : Int32)) := D19 (Or.inr (hw _ (List.mem_of_getElem? (i := 52) rfl))) (ty := .int) (by decide)
  have F19_lengthFieldBytes_o1 : Fld Z h19 o1 "com/example/hashwright/hashwright/LengthPaddedDigest" "lengthFieldBytes" "I" (.int (0 : Int32)) := D19 (Or.inr (hw _ (List.mem_of_getElem? (i := 54) rfl))) (ty := .int) (by decide)
  have F19_schedule_o1 : Fld Z h19 o1 "com/example/hashwright/hashwright/Sha512" "schedule" "[J" .null := D19 (Or.inr (hw _ (List.mem_of_getElem? (i := 56) rfl))) (ty := .array .long) (by decide)
  have F19_initialState_o1 : Fld Z h19 o1 "com/example/hashwright/hashwright/Sha512" "initialState" "[J" .null := D19 (Or.inr (hw _ (List.mem_of_getElem? (i := 58) rfl))) (ty := .array .long) (by decide)
  have F19_state_o1 : Fld Z h19 o1 "com/example/hashwright/hashwright/Sha512" "state" "[J" .null := D19 (Or.inr (hw _ (List.mem_of_getElem? (i := 69) rfl))) (ty := .array .long) (by decide)
  refine own_st st19 ?_
  show own_Go p e below _ T19 (mkF m 107 #[.val (.long pa), .second, .val (.long pb), .second, .val (.long pc_), .second, .val (.long pd), .second, .val (.long pe), .second, iv pk, rv r1, rv r2, .unset, .unset, .unset, .unset] [(.ref o1)])
  refine own_st (fun _ k => XS.dup X19.here hx rfl (hb hby at_107) rfl rfl k) ?_
  show own_Go p e below _ T19 (mkF m 108 #[.val (.long pa), .second, .val (.long pb), .second, .val (.long pc_), .second, .val (.long pd), .second, .val (.long pe), .second, iv pk, rv r1, rv r2, .unset, .unset, .unset, .unset] [(.ref o1), (.ref o1)])
  obtain ⟨T20, X20, e20, st20⟩ := getS2 X19 hx hZ hown (host := "") (Or.inl (hw _ (List.mem_of_getElem? (i := 5) rfl))) Via.refl e19 (S_A.ext O19.2) (g := (mkF m 108 #[.val (.long pa), .second, .val (.long pb), .second, .val (.long pc_), .second, .val (.long pd), .second, .val (.long pe), .second, iv pk, rv r1, rv r2, .unset, .unset, .unset, .unset] [(.ref o1), (.ref o1)])) rfl (hb hby at_108)
  refine own_st st20 ?_
  show own_Go p e below _ T20 (mkF m 111 #[.val (.long pa), .second, .val (.long pb), .second, .val (.long pc_), .second, .val (.long pd), .second, .val (.long pe), .second, iv pk, rv r1, rv r2, .unset, .unset, .unset, .unset] [(.ref ag), (.ref o1), (.ref o1)])
  refine own_st (fun _ k => XS.aload X20.here hx rfl (hb hby at_111) rfl rfl k) ?_
  show own_Go p e below _ T20 (mkF m 113 #[.val (.long pa), .second, .val (.long pb), .second, .val (.long pc_), .second, .val (.long pd), .second, .val (.long pe), .second, iv pk, rv r1, rv r2, .unset, .unset, .unset, .unset] [(.ref r1), (.ref ag), (.ref o1), (.ref o1)])
  obtain ⟨_, _, ⟨T21, L21, k21, n21⟩, -, X21, ⟨Lc21, hQ21, l21, y21, z21⟩, st21⟩ := X20.specialBack hx (y := (⟨"com/example/hashwright/hashwright/Sha512", "<init>", "(Lcom/example/hashwright/hashwright/Algorithm;[J)V"⟩ : MethodName)) rfl hown (mvT hZ (hw _ (List.mem_of_getElem? (i := 8) rfl))) (mvT hZ (hw _ (List.mem_of_getElem? (i := 9) rfl))) (mvT hZ (hw _ (List.mem_of_getElem? (i := 10) rfl))) (by decide) (backOf (W := 1) (own_rm_sh l Z a0 hw [] o1 ag sn dg r1 k_r1 [pa, pb, pc_, pd, pe, (pa ^^^ (-1 : Int64)), (pa ^^^ pd), (-pe)] h19 n0 Z19 A19 g_o1 F19_block_o1 F19_algorithm_o1 F19_digestLength_o1 F19_lengthFieldBytes_o1 F19_schedule_o1 F19_initialState_o1 F19_state_o1 (E_ag.ext O19.2) (F_sn.ext O19.2) (F_dg.ext O19.2) E19_r1 V19_r1 ne_r1_o1) hZ (hw _ (List.mem_of_getElem? (i := 10) rfl)) (hw _ (List.mem_of_getElem? (i := 4) rfl)) (by decide) (by decide)) (g := (mkF m 113 #[.val (.long pa), .second, .val (.long pb), .second, .val (.long pc_), .second, .val (.long pd), .second, .val (.long pe), .second, iv pk, rv r1, rv r2, .unset, .unset, .unset, .unset] [(.ref r1), (.ref ag), (.ref o1), (.ref o1)])) rfl (by rw [hml]; rfl) (Steps.refl _) (a := o1) (argsL := [(.ref ag), (.ref r1)]) (rest := [(.ref o1)]) (lenOf own_pd6 rfl) rfl (by show 2 * 0 + _ ≤ _; exact Nat.le_of_eq rfl) (hb hby at_113) (fun _ _ => ⟨rfl, e20, (by decide : 3 + 3 ≤ _), (by decide : 26 + 216 ≤ _)⟩)
  dsimp only [Pt.U, Pt.locs, Pt.cells, Pt.slots] at X21 l21 y21 z21 st21 hQ21
  subst l21 y21 z21
  obtain ⟨st1, rfl, N21, KC21, FC21, VC21, sz_st1⟩ := hQ21
  have M21 := Fr.app N18 N21
  refine own_tr st21 ?_
  show own_Go p e below _ T21 (mkF m 116 #[.val (.long pa), .second, .val (.long pb), .second, .val (.long pc_), .second, .val (.long pd), .second, .val (.long pe), .second, iv pk, rv r1, rv r2, .unset, .unset, .unset, .unset] [(.ref o1)])
  have O21 := O19.keep KC21 (allS g_o1 all0)
  have V21_r1 := V19_r1.keep KC21 (ninS ne_r1_o1 nin0)
  have V21_r2 := V19_r2.keep KC21 (ninS ne_r2_o1 nin0)
  have E21_r1 := E19_r1.keep KC21
  have E21_o1 := A19.keep KC21
  have Z21 : n0 ≤ T21.heap.size := Nat.le_trans Z19 KC21.1
  refine own_st (fun _ k => XS.astore X21.here hx rfl (hb hby at_116) rfl rfl (l' := #[.val (.long pa), .second, .val (.long pb), .second, .val (.long pc_), .second, .val (.long pd), .second, .val (.long pe), .second, iv pk, rv r1, rv r2, rv o1, .unset, .unset, .unset]) rfl k) ?_
  show own_Go p e below _ T21 (mkF m 118 #[.val (.long pa), .second, .val (.long pb), .second, .val (.long pc_), .second, .val (.long pd), .second, .val (.long pe), .second, iv pk, rv r1, rv r2, rv o1, .unset, .unset, .unset] [])
  refine own_st (fun _ k => XS.iload X21.here hx rfl (hb hby at_118) rfl k) ?_
  show own_Go p e below _ T21 (mkF m 120 #[.val (.long pa), .second, .val (.long pb), .second, .val (.long pc_), .second, .val (.long pd), .second, .val (.long pe), .second, iv pk, rv r1, rv r2, rv o1, .unset, .unset, .unset] [(.int pk)])
  refine own_st (fun _ k => Jvm.Stand.ldcI X21 hx hown (mvT hZ (hw _ (List.mem_of_getElem? (i := 70) rfl))) rfl (hb hby at_120) k) ?_
  show own_Go p e below _ T21 (mkF m 122 #[.val (.long pa), .second, .val (.long pb), .second, .val (.long pc_), .second, .val (.long pd), .second, .val (.long pe), .second, iv pk, rv r1, rv r2, rv o1, .unset, .unset, .unset] [(.int 2147483647), (.int pk)])
  refine own_st (fun _ k => XS.iand X21.here hx rfl (hb hby at_122) rfl k) ?_
  show own_Go p e below _ T21 (mkF m 123 #[.val (.long pa), .second, .val (.long pb), .second, .val (.long pc_), .second, .val (.long pd), .second, .val (.long pe), .second, iv pk, rv r1, rv r2, rv o1, .unset, .unset, .unset] [(.int (pk &&& 2147483647))])
  refine own_st (fun _ k => XT.bipushV X21.here hx rfl (65 : Int32) (hb hby at_123) (by decide) k) ?_
  show own_Go p e below _ T21 (mkF m 125 #[.val (.long pa), .second, .val (.long pb), .second, .val (.long pc_), .second, .val (.long pd), .second, .val (.long pe), .second, iv pk, rv r1, rv r2, rv o1, .unset, .unset, .unset] [(.int 65), (.int (pk &&& 2147483647))])
  refine own_st (fun _ k => iremM X21 hx rfl (hb hby at_125) rfl (by decide) k) ?_
  show own_Go p e below _ T21 (mkF m 126 #[.val (.long pa), .second, .val (.long pb), .second, .val (.long pc_), .second, .val (.long pd), .second, .val (.long pe), .second, iv pk, rv r1, rv r2, rv o1, .unset, .unset, .unset] [(.int ((pk &&& 2147483647) % 65))])
  obtain ⟨n, hn, hne⟩ := own_rem65 pk
  rw [hne]
  show own_Go p e below _ T21 (mkF m 126 #[.val (.long pa), .second, .val (.long pb), .second, .val (.long pc_), .second, .val (.long pd), .second, .val (.long pe), .second, iv pk, rv r1, rv r2, rv o1, .unset, .unset, .unset] [(.int (Int32.ofNat n))])
  refine own_st (fun _ k => XS.istore X21.here hx rfl (hb hby at_126) rfl (l' := #[.val (.long pa), .second, .val (.long pb), .second, .val (.long pc_), .second, .val (.long pd), .second, .val (.long pe), .second, iv pk, rv r1, rv r2, rv o1, iv (Int32.ofNat n), .unset, .unset]) rfl k) ?_
  show own_Go p e below _ T21 (mkF m 128 #[.val (.long pa), .second, .val (.long pb), .second, .val (.long pc_), .second, .val (.long pd), .second, .val (.long pe), .second, iv pk, rv r1, rv r2, rv o1, iv (Int32.ofNat n), .unset, .unset] [])
  refine own_st (fun _ k => XS.iload X21.here hx rfl (hb hby at_128) rfl k) ?_
  show own_Go p e below _ T21 (mkF m 130 #[.val (.long pa), .second, .val (.long pb), .second, .val (.long pc_), .second, .val (.long pd), .second, .val (.long pe), .second, iv pk, rv r1, rv r2, rv o1, iv (Int32.ofNat n), .unset, .unset] [(.int (Int32.ofNat n))])
  obtain ⟨y1, y2, y3⟩ := own_len64 ⟨n, hn⟩
  have hn' : n ≤ 64 := by omega
  obtain ⟨T22, h22, k_ou1, X22, e22, x22, A22, st22⟩ := newP X21 hx hZ (hw _ (List.mem_of_getElem? (i := 46) rfl)) rfl (g := (mkF m 130 #[.val (.long pa), .second, .val (.long pb), .second, .val (.long pc_), .second, .val (.long pd), .second, .val (.long pe), .second, iv pk, rv r1, rv r2, rv o1, iv (Int32.ofNat n), .unset, .unset] [(.int (Int32.ofNat n))])) rfl (hb hby at_130) rfl y1 (cap := 64) (by rw [show (Int32.ofNat n).toNatClampNeg = n from y2]; exact hn') (by decide) (by decide) (by decide)
  obtain ⟨ou1, g22⟩ : ∃ z, z = T21.heap.size := ⟨_, rfl⟩
  rw [← g22] at A22 st22
  have ne_r1_ou1 : r1 ≠ ou1 := g22 ▸ Nat.ne_of_lt V21_r1.lt
  have ne_r2_ou1 : r2 ≠ ou1 := g22 ▸ Nat.ne_of_lt V21_r2.lt
  have ne_st1_ou1 : st1 ≠ ou1 := g22 ▸ Nat.ne_of_lt VC21.lt
  have ne_o1_ou1 : o1 ≠ ou1 := g22 ▸ Nat.ne_of_lt E21_o1.lt
  have g_ou1 : n0 ≤ ou1 := g22 ▸ Z21
  have O22 := O21.ext x22
  have V22_r1 := V21_r1.ext x22
  have V22_r2 := V21_r2.ext x22
  have V22_st1 := VC21.ext x22
  have E22_r1 := E21_r1.ext x22
  have E22_o1 := E21_o1.ext x22
  have F22_state_o1 := FC21.ext x22
  have Z22 : n0 ≤ h22.size := Nat.le_trans Z21 x22.1
  have V22_ou1 : Arv Z h22 ou1 k_ou1 .byte (Int32.ofNat n) [] (.int 0) := Arv.new A22 y1
  refine own_st st22 ?_
  show own_Go p e below _ T22 (mkF m 132 #[.val (.long pa), .second, .val (.long pb), .second, .val (.long pc_), .second, .val (.long pd), .second, .val (.long pe), .second, iv pk, rv r1, rv r2, rv o1, iv (Int32.ofNat n), .unset, .unset] [(.ref ou1)])
  refine own_st (fun _ k => XS.astore X22.here hx rfl (hb hby at_132) rfl rfl (l' := #[.val (.long pa), .second, .val (.long pb), .second, .val (.long pc_), .second, .val (.long pd), .second, .val (.long pe), .second, iv pk, rv r1, rv r2, rv o1, iv (Int32.ofNat n), rv ou1, .unset]) rfl k) ?_
  show own_Go p e below _ T22 (mkF m 134 #[.val (.long pa), .second, .val (.long pb), .second, .val (.long pc_), .second, .val (.long pd), .second, .val (.long pe), .second, iv pk, rv r1, rv r2, rv o1, iv (Int32.ofNat n), rv ou1, .unset] [])
  refine own_st (fun _ k => XS.aload X22.here hx rfl (hb hby at_134) rfl rfl k) ?_
  show own_Go p e below _ T22 (mkF m 136 #[.val (.long pa), .second, .val (.long pb), .second, .val (.long pc_), .second, .val (.long pd), .second, .val (.long pe), .second, iv pk, rv r1, rv r2, rv o1, iv (Int32.ofNat n), rv ou1, .unset] [(.ref o1)])
  refine own_st (fun _ k => XS.aload X22.here hx rfl (hb hby at_136) rfl rfl k) ?_
  show own_Go p e below _ T22 (mkF m 138 #[.val (.long pa), .second, .val (.long pb), .second, .val (.long pc_), .second, .val (.long pd), .second, .val (.long pe), .second, iv pk, rv r1, rv r2, rv o1, iv (Int32.ofNat n), rv ou1, .unset] [(.ref ou1), (.ref o1)])
  obtain ⟨cq23, kq23, q23a, q23b, q23c⟩ := isOf hZ e22 E22_o1
  obtain ⟨_, _, ⟨T23, L23, k23, n23⟩, -, X23, ⟨Lc23, hQ23, l23, y23, z23⟩, st23⟩ := X22.virtualBack hx (y := (⟨"com/example/hashwright/hashwright/Sha512", "writeState", "([B)V"⟩ : MethodName)) (z := (⟨"com/example/hashwright/hashwright/Sha512", "writeState", "([B)V"⟩ : MethodName)) hown (mvT hZ (hw _ (List.mem_of_getElem? (i := 71) rfl))) (mvT hZ (hw _ (List.mem_of_getElem? (i := 72) rfl))) (notFace_of_selects (args := #[]) (mvT hZ (hw _ (List.mem_of_getElem? (i := 74) rfl)))) (mvT hZ (hw _ (List.mem_of_getElem? (i := 74) rfl))) (mvT hZ (hw _ (List.mem_of_getElem? (i := 73) rfl))) (by decide) (backOf (W := 0) (own_rm_ws l Z a0 hw [] o1 ou1 st1 k_r1 k_ou1 n [pa, pb, pc_, pd, pe, (pa ^^^ (-1 : Int64)), (pa ^^^ pd), (-pe)] h22 n0 Z22 F22_state_o1 V22_st1 V22_ou1 hn' ne_o1_ou1 ne_st1_ou1 g_ou1) hZ (hw _ (List.mem_of_getElem? (i := 75) rfl)) (hw _ (List.mem_of_getElem? (i := 4) rfl)) (by decide) (by decide)) q23a q23c (g := (mkF m 138 #[.val (.long pa), .second, .val (.long pb), .second, .val (.long pc_), .second, .val (.long pd), .second, .val (.long pe), .second, iv pk, rv r1, rv r2, rv o1, iv (Int32.ofNat n), rv ou1, .unset] [(.ref ou1), (.ref o1)])) rfl (by rw [hml]; rfl) (Steps.refl _) (argsL := [(.ref ou1)]) (rest := []) (lenOf own_pd7 rfl) rfl (by show 2 * 0 + _ ≤ _; exact Nat.le_of_eq rfl) (hb hby at_138) (fun _ _ => ⟨rfl, e22, (by decide : 7 + 0 ≤ _), (by decide : 306 + 0 ≤ _)⟩)
  dsimp only [Pt.U, Pt.locs, Pt.cells, Pt.slots] at X23 l23 y23 z23 st23 hQ23
  subst l23 y23 z23
  obtain ⟨rfl, N23, KC23, VC23⟩ := hQ23
  have M23 := Fr.app M21 N23
  refine own_tr st23 ?_
  show own_Go p e below _ T23 (mkF m 141 #[.val (.long pa), .second, .val (.long pb), .second, .val (.long pc_), .second, .val (.long pd), .second, .val (.long pe), .second, iv pk, rv r1, rv r2, rv o1, iv (Int32.ofNat n), rv ou1, .unset] [])
  have O23 := O22.keep KC23 (allS g_ou1 all0)
  have V23_r1 := V22_r1.keep KC23 (ninS ne_r1_ou1 nin0)
  have V23_r2 := V22_r2.keep KC23 (ninS ne_r2_ou1 nin0)
  have V23_st1 := V22_st1.keep KC23 (ninS ne_st1_ou1 nin0)
  have E23_r1 := E22_r1.keep KC23
  have E23_o1 := E22_o1.keep KC23
  have F23_state_o1 := F22_state_o1.keep KC23 (ninS ne_o1_ou1 nin0)
  have Z23 : n0 ≤ T23.heap.size := Nat.le_trans Z22 KC23.1
  refine own_st (fun _ k => XS.iload X23.here hx rfl (hb hby at_141) rfl k) ?_
  show own_Go p e below _ T23 (mkF m 143 #[.val (.long pa), .second, .val (.long pb), .second, .val (.long pc_), .second, .val (.long pd), .second, .val (.long pe), .second, iv pk, rv r1, rv r2, rv o1, iv (Int32.ofNat n), rv ou1, .unset] [(.int (Int32.ofNat n))])
  by_cases c0 : (Int32.ofNat n) = 0
  · refine own_st (fun _ k => XS.ifNo X23.here hx rfl (hb hby at_143) rfl (XT.i0_ne_f c0) k) ?_
    show own_Go p e below _ T23 (mkF m 146 #[.val (.long pa), .second, .val (.long pb), .second, .val (.long pc_), .second, .val (.long pd), .second, .val (.long pe), .second, iv pk, rv r1, rv r2, rv o1, iv (Int32.ofNat n), rv ou1, .unset] [])
    refine own_st (fun _ k => XT.iconstV X23.here hx rfl (1 : Int32) (hb hby at_146) (by decide) k) ?_
    show own_Go p e below _ T23 (mkF m 147 #[.val (.long pa), .second, .val (.long pb), .second, .val (.long pc_), .second, .val (.long pd), .second, .val (.long pe), .second, iv pk, rv r1, rv r2, rv o1, iv (Int32.ofNat n), rv ou1, .unset] [(.int 1)])
    refine own_retN X23 hx Bd.notSynchronized (t := .boolean) Bd.returns (by simp) (hb hby at_147) (by decide) (by decide) ?_
    exact ⟨rfl, M23⟩
  · refine own_st (fun _ k => XS.ifYes X23.here hx rfl (pc0 := 143) (pc' := 148) rfl (hb hby at_143) rfl (XT.i0_ne_t c0) (by decide) (by decide) k) ?_
    show own_Go p e below _ T23 (mkF m 148 #[.val (.long pa), .second, .val (.long pb), .second, .val (.long pc_), .second, .val (.long pd), .second, .val (.long pe), .second, iv pk, rv r1, rv r2, rv o1, iv (Int32.ofNat n), rv ou1, .unset] [])
    have hp : 0 < n := Nat.pos_of_ne_zero fun y => c0 (by rw [y]; rfl)
    refine own_st (fun _ k => XS.iload X23.here hx rfl (hb hby at_148) rfl k) ?_
    show own_Go p e below _ T23 (mkF m 150 #[.val (.long pa), .second, .val (.long pb), .second, .val (.long pc_), .second, .val (.long pd), .second, .val (.long pe), .second, iv pk, rv r1, rv r2, rv o1, iv (Int32.ofNat n), rv ou1, .unset] [(.int pk)])
    refine own_st (fun _ k => XT.bipushV X23.here hx rfl (7 : Int32) (hb hby at_150) (by decide) k) ?_
    show own_Go p e below _ T23 (mkF m 152 #[.val (.long pa), .second, .val (.long pb), .second, .val (.long pc_), .second, .val (.long pd), .second, .val (.long pe), .second, iv pk, rv r1, rv r2, rv o1, iv (Int32.ofNat n), rv ou1, .unset] [(.int 7), (.int pk)])
    refine own_st (fun _ k => XT.iushr X23.here hx rfl (hb hby at_152) rfl k) ?_
    show own_Go p e below _ T23 (mkF m 153 #[.val (.long pa), .second, .val (.long pb), .second, .val (.long pc_), .second, .val (.long pd), .second, .val (.long pe), .second, iv pk, rv r1, rv r2, rv o1, iv (Int32.ofNat n), rv ou1, .unset] [(.int (XT.ushr pk 7))])
    refine own_st (fun _ k => Jvm.Stand.ldcI X23 hx hown (mvT hZ (hw _ (List.mem_of_getElem? (i := 76) rfl))) rfl (hb hby at_153) k) ?_
    show own_Go p e below _ T23 (mkF m 155 #[.val (.long pa), .second, .val (.long pb), .second, .val (.long pc_), .second, .val (.long pd), .second, .val (.long pe), .second, iv pk, rv r1, rv r2, rv o1, iv (Int32.ofNat n), rv ou1, .unset] [(.int 65535), (.int (XT.ushr pk 7))])
    refine own_st (fun _ k => XS.iand X23.here hx rfl (hb hby at_155) rfl k) ?_
    show own_Go p e below _ T23 (mkF m 156 #[.val (.long pa), .second, .val (.long pb), .second, .val (.long pc_), .second, .val (.long pd), .second, .val (.long pe), .second, iv pk, rv r1, rv r2, rv o1, iv (Int32.ofNat n), rv ou1, .unset] [(.int ((XT.ushr pk 7) &&& 65535))])
    refine own_st (fun _ k => XS.iload X23.here hx rfl (hb hby at_156) rfl k) ?_
    show own_Go p e below _ T23 (mkF m 158 #[.val (.long pa), .second, .val (.long pb), .second, .val (.long pc_), .second, .val (.long pd), .second, .val (.long pe), .second, iv pk, rv r1, rv r2, rv o1, iv (Int32.ofNat n), rv ou1, .unset] [(.int (Int32.ofNat n)), (.int ((XT.ushr pk 7) &&& 65535))])
    obtain ⟨t, ht, hte⟩ := own_idx (XT.ushr pk (7 : Int32)) n hp hn'
    refine own_st (fun _ k => iremM X23 hx rfl (hb hby at_158) rfl c0 k) ?_
    rw [hte]
    show own_Go p e below _ T23 (mkF m 159 #[.val (.long pa), .second, .val (.long pb), .second, .val (.long pc_), .second, .val (.long pd), .second, .val (.long pe), .second, iv pk, rv r1, rv r2, rv o1, iv (Int32.ofNat n), rv ou1, .unset] [(.int (Int32.ofNat t))])
    refine own_st (fun _ k => XS.istore X23.here hx rfl (hb hby at_159) rfl (l' := #[.val (.long pa), .second, .val (.long pb), .second, .val (.long pc_), .second, .val (.long pd), .second, .val (.long pe), .second, iv pk, rv r1, rv r2, rv o1, iv (Int32.ofNat n), rv ou1, iv (Int32.ofNat t)]) rfl k) ?_
    show own_Go p e below _ T23 (mkF m 161 #[.val (.long pa), .second, .val (.long pb), .second, .val (.long pc_), .second, .val (.long pd), .second, .val (.long pe), .second, iv pk, rv r1, rv r2, rv o1, iv (Int32.ofNat n), rv ou1, iv (Int32.ofNat t)] [])
    refine own_st (fun _ k => XS.aload X23.here hx rfl (hb hby at_161) rfl rfl k) ?_
    show own_Go p e below _ T23 (mkF m 163 #[.val (.long pa), .second, .val (.long pb), .second, .val (.long pc_), .second, .val (.long pd), .second, .val (.long pe), .second, iv pk, rv r1, rv r2, rv o1, iv (Int32.ofNat n), rv ou1, iv (Int32.ofNat t)] [(.ref ou1)])
    refine own_st (fun _ k => XS.iload X23.here hx rfl (hb hby at_163) rfl k) ?_
    show own_Go p e below _ T23 (mkF m 165 #[.val (.long pa), .second, .val (.long pb), .second, .val (.long pc_), .second, .val (.long pd), .second, .val (.long pe), .second, iv pk, rv r1, rv r2, rv o1, iv (Int32.ofNat n), rv ou1, iv (Int32.ofNat t)] [(.int (Int32.ofNat t)), (.ref ou1)])
    have ht64 : t < 64 := by omega
    have hm1 : n - 1 < n := by omega
    have hm64 : n - 1 < 64 := by omega
    refine own_st (fun _ k => own_ldB X23 hx hZ rfl VC23 ⟨(own_ix ⟨t, ht64⟩).2.2.2.2.2.1, own_lt64 ht hn'⟩ (v := (.int (own_b ([pa, pb, pc_, pd, pe, (pa ^^^ (-1 : Int64)), (pa ^^^ pd), (-pe)].getD (t / 8) 0) t))) (by rw [show (Int32.ofNat t).toNatClampNeg = t from (own_ix ⟨t, ht64⟩).2.2.2.2.2.2]; exact own_bs_at _ ht) rfl rfl (hb hby at_165) k) ?_
    show own_Go p e below _ T23 (mkF m 166 #[.val (.long pa), .second, .val (.long pb), .second, .val (.long pc_), .second, .val (.long pd), .second, .val (.long pe), .second, iv pk, rv r1, rv r2, rv o1, iv (Int32.ofNat n), rv ou1, iv (Int32.ofNat t)] [(.int (own_b ([pa, pb, pc_, pd, pe, (pa ^^^ (-1)), (pa ^^^ pd), (-pe)].getD (t / 8) 0) t))])
    refine own_st (fun _ k => XS.aload X23.here hx rfl (hb hby at_166) rfl rfl k) ?_
    show own_Go p e below _ T23 (mkF m 168 #[.val (.long pa), .second, .val (.long pb), .second, .val (.long pc_), .second, .val (.long pd), .second, .val (.long pe), .second, iv pk, rv r1, rv r2, rv o1, iv (Int32.ofNat n), rv ou1, iv (Int32.ofNat t)] [(.ref r2), (.int (own_b ([pa, pb, pc_, pd, pe, (pa ^^^ (-1)), (pa ^^^ pd), (-pe)].getD (t / 8) 0) t))])
    refine own_st (fun _ k => XS.iload X23.here hx rfl (hb hby at_168) rfl k) ?_
    show own_Go p e below _ T23 (mkF m 170 #[.val (.long pa), .second, .val (.long pb), .second, .val (.long pc_), .second, .val (.long pd), .second, .val (.long pe), .second, iv pk, rv r1, rv r2, rv o1, iv (Int32.ofNat n), rv ou1, iv (Int32.ofNat t)] [(.int (Int32.ofNat t)), (.ref r2), (.int (own_b ([pa, pb, pc_, pd, pe, (pa ^^^ (-1)), (pa ^^^ pd), (-pe)].getD (t / 8) 0) t))])
    obtain ⟨_, _, ⟨T25, L25, k25, n25⟩, -, X25, ⟨Lc25, hQ25, l25, y25, z25⟩, st25⟩ := Jvm.LawKit.callS X23 hx (y := (⟨"com/example/hashwright/hashwright/Sha512WriteStatePinLaw", "be", "([JI)B"⟩ : MethodName)) hown (mvT hZ (hw _ (List.mem_of_getElem? (i := 77) rfl))) (mvT hZ (hw _ (List.mem_of_getElem? (i := 78) rfl))) (mvT hZ (hw _ (List.mem_of_getElem? (i := 79) rfl))) (mvT hZ (hw _ (List.mem_of_getElem? (i := 80) rfl))) (by decide) (backOf (W := 1) (own_rm_be l Z a0 hw [] r2 k_r2 t [pa, pb, pc_, pd, pe, (pa ^^^ (-1 : Int64)), (pa ^^^ pd), (-pe)] T23.heap n0 Z23 V23_r2 ht64) hZ (hw _ (List.mem_of_getElem? (i := 80) rfl)) (hw _ (List.mem_of_getElem? (i := 79) rfl)) (by decide) (by decide)) (g := (mkF m 170 #[.val (.long pa), .second, .val (.long pb), .second, .val (.long pc_), .second, .val (.long pd), .second, .val (.long pe), .second, iv pk, rv r1, rv r2, rv o1, iv (Int32.ofNat n), rv ou1, iv (Int32.ofNat t)] [(.int (Int32.ofNat t)), (.ref r2), (.int (own_b ([pa, pb, pc_, pd, pe, (pa ^^^ (-1)), (pa ^^^ pd), (-pe)].getD (t / 8) 0) t))])) rfl (by rw [hml]; rfl) (argsL := [(.ref r2), (.int (Int32.ofNat t))]) (rest := [(.int (own_b ([pa, pb, pc_, pd, pe, (pa ^^^ (-1 : Int64)), (pa ^^^ pd), (-pe)].getD (t / 8) 0) t))]) (lenOf own_pd8 rfl) rfl (by show 2 * 0 + _ ≤ _; exact Nat.le_of_eq rfl) (hb hby at_170) (fun _ _ => ⟨rfl, rfl, (by decide : 7 + 0 ≤ _), (by decide : 306 + 0 ≤ _)⟩)
    dsimp only [Pt.U, Pt.locs, Pt.cells, Pt.slots] at X25 l25 y25 z25 st25 hQ25
    subst l25 y25 z25
    obtain ⟨rfl, N25, eh25⟩ := hQ25
    have M25 := Fr.app M23 N25
    refine own_st st25 ?_
    show own_Go p e below _ T25 (mkF m 173 #[.val (.long pa), .second, .val (.long pb), .second, .val (.long pc_), .second, .val (.long pd), .second, .val (.long pe), .second, iv pk, rv r1, rv r2, rv o1, iv (Int32.ofNat n), rv ou1, iv (Int32.ofNat t)] [(.int (own_be ([pa, pb, pc_, pd, pe, (pa ^^^ (-1)), (pa ^^^ pd), (-pe)].getD (t / 8) 0) t)), (.int (own_b ([pa, pb, pc_, pd, pe, (pa ^^^ (-1)), (pa ^^^ pd), (-pe)].getD (t / 8) 0) t))])
    refine own_st (fun _ k => XS.icmpNo X25.here hx rfl (hb hby at_173) rfl (XT.ii_ne_f (own_same _ t ht64)) k) ?_
    show own_Go p e below _ T25 (mkF m 176 #[.val (.long pa), .second, .val (.long pb), .second, .val (.long pc_), .second, .val (.long pd), .second, .val (.long pe), .second, iv pk, rv r1, rv r2, rv o1, iv (Int32.ofNat n), rv ou1, iv (Int32.ofNat t)] [])
    refine own_st (fun _ k => XS.aload X25.here hx rfl (hb hby at_176) rfl rfl k) ?_
    show own_Go p e below _ T25 (mkF m 178 #[.val (.long pa), .second, .val (.long pb), .second, .val (.long pc_), .second, .val (.long pd), .second, .val (.long pe), .second, iv pk, rv r1, rv r2, rv o1, iv (Int32.ofNat n), rv ou1, iv (Int32.ofNat t)] [(.ref ou1)])
    refine own_st (fun _ k => XS.iload X25.here hx rfl (hb hby at_178) rfl k) ?_
    show own_Go p e below _ T25 (mkF m 180 #[.val (.long pa), .second, .val (.long pb), .second, .val (.long pc_), .second, .val (.long pd), .second, .val (.long pe), .second, iv pk, rv r1, rv r2, rv o1, iv (Int32.ofNat n), rv ou1, iv (Int32.ofNat t)] [(.int (Int32.ofNat n)), (.ref ou1)])
    refine own_st (fun _ k => XT.iconstV X25.here hx rfl (1 : Int32) (hb hby at_180) (by decide) k) ?_
    show own_Go p e below _ T25 (mkF m 181 #[.val (.long pa), .second, .val (.long pb), .second, .val (.long pc_), .second, .val (.long pd), .second, .val (.long pe), .second, iv pk, rv r1, rv r2, rv o1, iv (Int32.ofNat n), rv ou1, iv (Int32.ofNat t)] [(.int 1), (.int (Int32.ofNat n)), (.ref ou1)])
    refine own_st (fun _ k => XS.isub X25.here hx rfl (hb hby at_181) rfl k) ?_
    show own_Go p e below _ T25 (mkF m 182 #[.val (.long pa), .second, .val (.long pb), .second, .val (.long pc_), .second, .val (.long pd), .second, .val (.long pe), .second, iv pk, rv r1, rv r2, rv o1, iv (Int32.ofNat n), rv ou1, iv (Int32.ofNat t)] [(.int ((Int32.ofNat n) - 1)), (.ref ou1)])
    rw [own_pred ⟨n, hn⟩ hp]
    show own_Go p e below _ T25 (mkF m 182 #[.val (.long pa), .second, .val (.long pb), .second, .val (.long pc_), .second, .val (.long pd), .second, .val (.long pe), .second, iv pk, rv r1, rv r2, rv o1, iv (Int32.ofNat n), rv ou1, iv (Int32.ofNat t)] [(.int (Int32.ofNat (n - 1))), (.ref ou1)])
    refine own_st (fun _ k => own_ldB X25 hx hZ eh25 VC23 ⟨(own_ix ⟨(n - 1), hm64⟩).2.2.2.2.2.1, own_lt64 hm1 hn'⟩ (v := (.int (own_b ([pa, pb, pc_, pd, pe, (pa ^^^ (-1 : Int64)), (pa ^^^ pd), (-pe)].getD ((n - 1) / 8) 0) (n - 1)))) (by rw [show (Int32.ofNat (n - 1)).toNatClampNeg = (n - 1) from (own_ix ⟨(n - 1), hm64⟩).2.2.2.2.2.2]; exact own_bs_at _ hm1) rfl rfl (hb hby at_182) k) ?_
    show own_Go p e below _ T25 (mkF m 183 #[.val (.long pa), .second, .val (.long pb), .second, .val (.long pc_), .second, .val (.long pd), .second, .val (.long pe), .second, iv pk, rv r1, rv r2, rv o1, iv (Int32.ofNat n), rv ou1, iv (Int32.ofNat t)] [(.int (own_b ([pa, pb, pc_, pd, pe, (pa ^^^ (-1)), (pa ^^^ pd), (-pe)].getD ((n - 1) / 8) 0) (n - 1)))])
    refine own_st (fun _ k => XS.aload X25.here hx rfl (hb hby at_183) rfl rfl k) ?_
    show own_Go p e below _ T25 (mkF m 185 #[.val (.long pa), .second, .val (.long pb), .second, .val (.long pc_), .second, .val (.long pd), .second, .val (.long pe), .second, iv pk, rv r1, rv r2, rv o1, iv (Int32.ofNat n), rv ou1, iv (Int32.ofNat t)] [(.ref r2), (.int (own_b ([pa, pb, pc_, pd, pe, (pa ^^^ (-1)), (pa ^^^ pd), (-pe)].getD ((n - 1) / 8) 0) (n - 1)))])
    refine own_st (fun _ k => XS.iload X25.here hx rfl (hb hby at_185) rfl k) ?_
    show own_Go p e below _ T25 (mkF m 187 #[.val (.long pa), .second, .val (.long pb), .second, .val (.long pc_), .second, .val (.long pd), .second, .val (.long pe), .second, iv pk, rv r1, rv r2, rv o1, iv (Int32.ofNat n), rv ou1, iv (Int32.ofNat t)] [(.int (Int32.ofNat n)), (.ref r2), (.int (own_b ([pa, pb, pc_, pd, pe, (pa ^^^ (-1)), (pa ^^^ pd), (-pe)].getD ((n - 1) / 8) 0) (n - 1)))])
    refine own_st (fun _ k => XT.iconstV X25.here hx rfl (1 : Int32) (hb hby at_187) (by decide) k) ?_
    show own_Go p e below _ T25 (mkF m 188 #[.val (.long pa), .second, .val (.long pb), .second, .val (.long pc_), .second, .val (.long pd), .second, .val (.long pe), .second, iv pk, rv r1, rv r2, rv o1, iv (Int32.ofNat n), rv ou1, iv (Int32.ofNat t)] [(.int 1), (.int (Int32.ofNat n)), (.ref r2), (.int (own_b ([pa, pb, pc_, pd, pe, (pa ^^^ (-1)), (pa ^^^ pd), (-pe)].getD ((n - 1) / 8) 0) (n - 1)))])
    refine own_st (fun _ k => XS.isub X25.here hx rfl (hb hby at_188) rfl k) ?_
    show own_Go p e below _ T25 (mkF m 189 #[.val (.long pa), .second, .val (.long pb), .second, .val (.long pc_), .second, .val (.long pd), .second, .val (.long pe), .second, iv pk, rv r1, rv r2, rv o1, iv (Int32.ofNat n), rv ou1, iv (Int32.ofNat t)] [(.int ((Int32.ofNat n) - 1)), (.ref r2), (.int (own_b ([pa, pb, pc_, pd, pe, (pa ^^^ (-1)), (pa ^^^ pd), (-pe)].getD ((n - 1) / 8) 0) (n - 1)))])
    rw [own_pred ⟨n, hn⟩ hp]
    show own_Go p e below _ T25 (mkF m 189 #[.val (.long pa), .second, .val (.long pb), .second, .val (.long pc_), .second, .val (.long pd), .second, .val (.long pe), .second, iv pk, rv r1, rv r2, rv o1, iv (Int32.ofNat n), rv ou1, iv (Int32.ofNat t)] [(.int (Int32.ofNat (n - 1))), (.ref r2), (.int (own_b ([pa, pb, pc_, pd, pe, (pa ^^^ (-1)), (pa ^^^ pd), (-pe)].getD ((n - 1) / 8) 0) (n - 1)))])
    obtain ⟨_, _, ⟨T26, L26, k26, n26⟩, -, X26, ⟨Lc26, hQ26, l26, y26, z26⟩, st26⟩ := Jvm.LawKit.callS X25 hx (y := (⟨"com/example/hashwright/hashwright/Sha512WriteStatePinLaw", "be", "([JI)B"⟩ : MethodName)) hown (mvT hZ (hw _ (List.mem_of_getElem? (i := 77) rfl))) (mvT hZ (hw _ (List.mem_of_getElem? (i := 78) rfl))) (mvT hZ (hw _ (List.mem_of_getElem? (i := 79) rfl))) (mvT hZ (hw _ (List.mem_of_getElem? (i := 80) rfl))) (by decide) (backOf (W := 1) (own_rm_be l Z a0 hw [] r2 k_r2 (n - 1) [pa, pb, pc_, pd, pe, (pa ^^^ (-1 : Int64)), (pa ^^^ pd), (-pe)] T23.heap n0 Z23 V23_r2 hm64) hZ (hw _ (List.mem_of_getElem? (i := 80) rfl)) (hw _ (List.mem_of_getElem? (i := 79) rfl)) (by decide) (by decide)) (g := (mkF m 189 #[.val (.long pa), .second, .val (.long pb), .second, .val (.long pc_), .second, .val (.long pd), .second, .val (.long pe), .second, iv pk, rv r1, rv r2, rv o1, iv (Int32.ofNat n), rv ou1, iv (Int32.ofNat t)] [(.int (Int32.ofNat (n - 1))), (.ref r2), (.int (own_b ([pa, pb, pc_, pd, pe, (pa ^^^ (-1)), (pa ^^^ pd), (-pe)].getD ((n - 1) / 8) 0) (n - 1)))])) rfl (by rw [hml]; rfl) (argsL := [(.ref r2), (.int (Int32.ofNat (n - 1)))]) (rest := [(.int (own_b ([pa, pb, pc_, pd, pe, (pa ^^^ (-1 : Int64)), (pa ^^^ pd), (-pe)].getD ((n - 1) / 8) 0) (n - 1)))]) (lenOf own_pd8 rfl) rfl (by show 2 * 0 + _ ≤ _; exact Nat.le_of_eq rfl) (hb hby at_189) (fun _ _ => ⟨rfl, eh25, (by decide : 7 + 0 ≤ _), (by decide : 306 + 0 ≤ _)⟩)
    dsimp only [Pt.U, Pt.locs, Pt.cells, Pt.slots] at X26 l26 y26 z26 st26 hQ26
    subst l26 y26 z26
    obtain ⟨rfl, N26, eh26⟩ := hQ26
    have M26 := Fr.app M25 N26
    refine own_st st26 ?_
    show own_Go p e below _ T26 (mkF m 192 #[.val (.long pa), .second, .val (.long pb), .second, .val (.long pc_), .second, .val (.long pd), .second, .val (.long pe), .second, iv pk, rv r1, rv r2, rv o1, iv (Int32.ofNat n), rv ou1, iv (Int32.ofNat t)] [(.int (own_be ([pa, pb, pc_, pd, pe, (pa ^^^ (-1)), (pa ^^^ pd), (-pe)].getD ((n - 1) / 8) 0) (n - 1))), (.int (own_b ([pa, pb, pc_, pd, pe, (pa ^^^ (-1)), (pa ^^^ pd), (-pe)].getD ((n - 1) / 8) 0) (n - 1)))])
    refine own_st (fun _ k => XS.icmpNo X26.here hx rfl (hb hby at_192) rfl (XT.ii_ne_f (own_same _ (n - 1) hm64)) k) ?_
    show own_Go p e below _ T26 (mkF m 195 #[.val (.long pa), .second, .val (.long pb), .second, .val (.long pc_), .second, .val (.long pd), .second, .val (.long pe), .second, iv pk, rv r1, rv r2, rv o1, iv (Int32.ofNat n), rv ou1, iv (Int32.ofNat t)] [])
    refine own_st (fun _ k => XT.iconstV X26.here hx rfl (1 : Int32) (hb hby at_195) (by decide) k) ?_
    show own_Go p e below _ T26 (mkF m 196 #[.val (.long pa), .second, .val (.long pb), .second, .val (.long pc_), .second, .val (.long pd), .second, .val (.long pe), .second, iv pk, rv r1, rv r2, rv o1, iv (Int32.ofNat n), rv ou1, iv (Int32.ofNat t)] [(.int 1)])
    refine own_st (fun _ k => XS.goto X26.here hx rfl (pc0 := 196) (pc' := 200) rfl (hb hby at_196) (by decide) (by decide) k) ?_
    show own_Go p e below _ T26 (mkF m 200 #[.val (.long pa), .second, .val (.long pb), .second, .val (.long pc_), .second, .val (.long pd), .second, .val (.long pe), .second, iv pk, rv r1, rv r2, rv o1, iv (Int32.ofNat n), rv ou1, iv (Int32.ofNat t)] [(.int 1)])
    refine own_retN X26 hx Bd.notSynchronized (t := .boolean) Bd.returns (by simp) (hb hby at_200) (by decide) (by decide) ?_
    rw [eh26]
    exact ⟨rfl, M26⟩
set_option maxRecDepth 65536 in
set_option maxHeartbeats 40000000 in
theorem comes_1 {Post : Tables → Env → Array Value → State → Outcome → State → Prop} (hpost : ∀ tb e args s v u, (limb_1_1.after args s (.returned v) u = true ∧ limb_1_2.after args s (.returned v) u = true ∧ True) → FrameEnd s (.returned v) u (Jvm.fieldLocs frame_1_writes args s ++ Jvm.arrayLocs frame_1_arrays args s ++ Jvm.staticLocs frame_1_statics s) 24 704 → Post tb e args s (.returned v) u) :
    ArmFor flags0 classFile x code maxLocals ret World_1 tables_1 room_1 Calls_1 rest_1 Pre_1 Post := by
  intro l hfl _ _ p e ha hc hk s m args below hf hA hF happ hP
  obtain ⟨hcalls, hrest, hpre⟩ := hP
  obtain ⟨-, -, -, hnamed, -, -, -, hat⟩ := (Spec.applies_iff hf).mp happ
  obtain ⟨hg, hn⟩ := and_e (Cond.before_iff.mp (show (Jvm.Cond.and given_1 narrow_1).before args s = true from hpre))
  obtain ⟨gl0, gr0⟩ := and_e hg
  obtain ⟨gl1, gr1⟩ := and_e gr0
  obtain ⟨gl2, gr2⟩ := and_e gr1
  obtain ⟨gl3, gr3⟩ := and_e gr2
  obtain ⟨gl4, gr4⟩ := and_e gr3
  obtain ⟨gl5, gr5⟩ := and_e gr4
  obtain ⟨w0, w1, w2, w3, w4, w5, rfl⟩ : ∃ w0 w1 w2 w3 w4 w5 : Value, args = #[w0, w1, w2, w3, w4, w5] := by
    have hs : args.size = 6 := by simpa [Cond.value, given_1] using gl0
    obtain ⟨L⟩ := args
    match L, hs with
    | [w0, w1, w2, w3, w4, w5], _ => exact ⟨w0, w1, w2, w3, w4, w5, rfl⟩
  have hw := fun d (hd : d ∈ tables_1) => atoms_spec (ws := Jvm.Cond.code x code maxLocals ret :: tables_1) hat d (List.mem_cons_of_mem _ hd)
  obtain ⟨nl0, nr0⟩ := and_e hn
  obtain ⟨nl1, nr1⟩ := and_e nr0
  have nn0 := nl0
  have nn1 := nl1
  have nn2 := nr1
  have hfit : Fit s := fun {y c} hc i hi => by
    obtain ⟨ha, rfl⟩ := Array.getElem?_eq_some_iff.mp hc
    have q := List.all_eq_true.mp ((Array.all_eq_true_iff_forall_mem.mp hF) _ (Array.getElem_mem ha)) i (List.mem_range.mpr hi)
    simpa [Array.getElem?_eq_getElem hi] using q
  obtain ⟨i0, ei0⟩ := isL_v gl1
  obtain rfl : w0 = (.long i0) := Option.some.inj ei0
  obtain ⟨i1, ei1⟩ := isL_v gl2
  obtain rfl : w1 = (.long i1) := Option.some.inj ei1
  obtain ⟨i2, ei2⟩ := isL_v gl3
  obtain rfl : w2 = (.long i2) := Option.some.inj ei2
  obtain ⟨i3, ei3⟩ := isL_v gl4
  obtain rfl : w3 = (.long i3) := Option.some.inj ei3
  obtain ⟨i4, ei4⟩ := isL_v gl5
  obtain rfl : w4 = (.long i4) := Option.some.inj ei4
  obtain ⟨i5, ei5⟩ := is_v gr5
  obtain rfl : w5 = (.int i5) := Option.some.inj ei5
  obtain ⟨ag, ev_ag⟩ := exa_v nn0
  have S_A : Sta s s.heap "com/example/hashwright/hashwright/Algorithm" "SHA_512" "Lcom/example/hashwright/hashwright/Algorithm;" (.ref ag) := Sta.start ev_ag (Or.inr ⟨(hw _ (List.mem_of_getElem? (i := 6) rfl)), (hw _ (List.mem_of_getElem? (i := 7) rfl))⟩)
  have E_ag : Exa s s.heap ag "com/example/hashwright/hashwright/Algorithm" := Exa.start ev_ag nn0
  obtain ⟨sn, ev_sn⟩ := exa_v nn1
  have F_sn : Fld s s.heap ag "com/example/hashwright/hashwright/Algorithm" "standardName" "Ljava/lang/String;" (.ref sn) := Fld.start ((fld_at ev_ag).symm.trans ev_sn)
  have F_dg : Fld s s.heap ag "com/example/hashwright/hashwright/Algorithm" "digestLength" "I" (.int (64 : Int32)) := Fld.start ((fld_at ev_ag).symm.trans (own_eq_int nn2))
  obtain ⟨n, o, h1, h2, h3, _, L, rfl, ⟨rfl, N⟩, hq⟩ := own_rm_law l s _ hw tables_1 i0 i1 i2 i3 i4 i5 ag sn (64 : Int32) s.heap s.heap.size (Nat.le_refl _) (Old.start s) S_A E_ag F_sn F_dg p e ha hc hk s m _ below hf ((Spec.applies_iff_loose hf).mp happ).1 ⟨rfl, State.Warmed39.refl s, rfl⟩ trivial
  refine ⟨n, _, h1, h2, h3, hpost _ _ _ _ _ _ ⟨Cond.after_iff.mpr rfl, Cond.after_iff.mpr (eq_i res_at (Term.int_eval (1)) rfl), trivial⟩ ⟨hq.1, hq.2.1, (hq.2.2.sift fun y hy => Or.inr (N y hy)).mono (by decide) (by decide)⟩⟩
theorem main_1_1 : Claimed_1_1 := comes_1 fun _ _ _ _ _ _ h hF => ⟨h.1, hF⟩
theorem main_1_2 : Claimed_1_2 := comes_1 fun _ _ _ _ _ _ h hF => ⟨h.2.1, hF⟩
end Jvm.Pilot.@@N@@
namespace Jvm.Pilot.@@N@@
open Jvm Jvm.ClassFile Sem Op Lib Jvm.Free Jvm.Stand Jvm.Pilot.@@N@@.Jvm.D
/-! MADE BY PROGRAM (witnessworld.py) out of the Statement's table words and the real class files: 23 classes; the members and pool entries that the words name. The judged class is class 1, her method 1. -/
namespace start1
open Jvm.ClassFile
def u (s : String) : CpInfo := .utf8 (stringToUtf16 s)
/-- a pool by its gaps: so many unusable entries, then the entry; so many at the end -/
def gap : Nat → List CpInfo → List CpInfo
  | 0, r => r
  | n + 1, r => .unusable :: gap n r
def poolList (es : List (Nat × CpInfo)) (last : Nat) : List CpInfo := es.foldr (fun e r => gap e.1 (e.2 :: r)) (gap last [])
def pool (es : List (Nat × CpInfo)) (last : Nat) : Array CpInfo := ⟨poolList es last⟩
def fileOf (pool : Array CpInfo) (this : Nat) (attrs : Array Attribute := #[]) (ms : Array MethodInfo := #[]) (fl : Nat := 33) (sup : Nat := 0) (ifs : Array Nat := #[]) (fds : Array FieldInfo := #[]) : ClassFile where
  minorVersion := 0
  majorVersion := 65
  constantPool := pool
  accessFlags := fl
  thisClass := this
  superClass := sup
  interfaces := ifs
  fields := fds
  methods := ms
  attributes := attrs
def plain (name : String) (sup : Option ClassId) : Class where
  name := name
  kind := .ordinary
  loader := none
  accessFlags := 33
  super := sup
  interfaces := #[]
  cf := none
  fields := #[]
  methods := #[]
  instanceTypes := #[]
  staticTypes := #[]
  resolved := #[]
  callSites := []
  init := .initialized
  statics := none
  mirror := none

def pool0 : Array CpInfo := pool [(5, u "<init>"), (0, u "()V"), (1, .class_ 10), (1, u "java/lang/Object"), (85, u "clone"), (0, u "()Ljava/lang/Object;")] 26

def k0c0 : Code := { maxStack := 0, maxLocals := 1, code := object_method_1_code, exceptionTable := #[], attributes := #[] }
def k0m0 : Method := { name := "<init>", desc := "()V", sig := { parameters := [], returnType := none }, accessFlags := 1, code := some k0c0 }
def k0m1 : Method := { name := "clone", desc := "()Ljava/lang/Object;", sig := { parameters := [], returnType := some (.object "java/lang/Object") }, accessFlags := 260, code := none }
/-- java/lang/Object -/
def k0 : Class := { plain "java/lang/Object" none with
  accessFlags := 33
  interfaces := #[]
  cf := some (fileOf pool0 8 #[] #[{ accessFlags := 1, nameIndex := 5, descriptorIndex := 6, attributes := #[] }, { accessFlags := 260, nameIndex := 96, descriptorIndex := 97, attributes := #[] }] 33 0 #[] #[])
  fields := #[]
  methods := #[k0m0, k0m1]
  instanceTypes := #[]
  staticTypes := #[]
  resolved := Array.replicate 124 none
  statics := none }

def pool1 : Array CpInfo := pool [(2, .class_ 4), (1, u "java/lang/Object"), (0, u "<init>"), (0, u "()V"), (0, .long 18446744073709551615), (1, .class_ 10), (0, u "com/example/hashwright/hashwright/Sha512"), (0, .fieldref 12 13), (0, .class_ 14), (0, .nameAndType 15 16), (0, u "com/example/hashwright/hashwright/Algorithm"), (0, u "SHA_512"), (0, u "Lcom/example/hashwright/hashwright/Algorithm;"), (0, .methodref 9 18), (0, .nameAndType 5 19), (0, u "(Lcom/example/hashwright/hashwright/Algorithm;[J)V"), (0, .integer 2147483647), (0, .methodref 9 22), (0, .nameAndType 23 24), (0, u "writeState"), (0, u "([B)V"), (0, .integer 65535), (0, .methodref 27 28), (0, .class_ 29), (0, .nameAndType 30 31), (0, u "com/example/hashwright/hashwright/Sha512WriteStatePinLaw"), (0, u "be"), (0, u "([JI)B"), (2, u "law"), (0, u "(JJJJJI)Z")] 7

def k1m0 : Method := { name := "<init>", desc := "()V", sig := { parameters := [], returnType := none }, accessFlags := 1, code := none }
def k1c1 : Code := { maxStack := 7, maxLocals := 17, code := code, exceptionTable := #[], attributes := #[] }
def k1m1 : Method := { name := "law", desc := "(JJJJJI)Z", sig := { parameters := [.long, .long, .long, .long, .long, .int], returnType := some .boolean }, accessFlags := 9, code := some k1c1 }
def k1c2 : Code := { maxStack := 4, maxLocals := 4, code := method_3_code, exceptionTable := #[], attributes := #[] }
def k1m2 : Method := { name := "be", desc := "([JI)B", sig := { parameters := [(.array .long), .int], returnType := some .byte }, accessFlags := 10, code := some k1c2 }
/-- com/example/hashwright/hashwright/Sha512WriteStatePinLaw -/
def k1 : Class := { plain "com/example/hashwright/hashwright/Sha512WriteStatePinLaw" (some 0) with
  accessFlags := 49
  interfaces := #[]
  cf := some (fileOf pool1 27 #[] #[{ accessFlags := 1, nameIndex := 5, descriptorIndex := 6, attributes := #[] }, { accessFlags := 9, nameIndex := 34, descriptorIndex := 35, attributes := #[] }, { accessFlags := 10, nameIndex := 30, descriptorIndex := 31, attributes := #[] }] 49 2 #[] #[])
  fields := #[]
  methods := #[k1m0, k1m1, k1m2]
  instanceTypes := #[]
  staticTypes := #[]
  resolved := Array.replicate 43 none
  statics := none }

def pool2 : Array CpInfo := pool [(2, .class_ 4), (1, u "com/example/hashwright/hashwright/Hasher"), (2, .class_ 8), (0, u "java/lang/Object")] 13

/-- com/example/hashwright/hashwright/Hasher -/
def k2 : Class := { plain "com/example/hashwright/hashwright/Hasher" (some 0) with
  accessFlags := 1537
  interfaces := #[]
  cf := some (fileOf pool2 2 #[] #[] 1537 7 #[] #[])
  fields := #[]
  methods := #[]
  instanceTypes := #[]
  staticTypes := #[]
  resolved := Array.replicate 22 none
  statics := none }

def pool3 : Array CpInfo := pool [(1, .methodref 2 3), (0, .class_ 4), (0, .nameAndType 5 6), (0, u "java/lang/Object"), (0, u "<init>"), (0, u "()V"), (0, .fieldref 8 9), (0, .class_ 10), (0, .nameAndType 11 12), (0, u "com/example/hashwright/hashwright/BlockHasher"), (0, u "block"), (0, u "[B"), (7, u "buffered"), (0, u "I"), (2, u "byteCount"), (0, u "J"), (2, u "finished"), (0, u "Z"), (76, .class_ 107), (0, u "com/example/hashwright/hashwright/Hasher"), (0, u "(I)V")] 25

def k3c0 : Code := { maxStack := 2, maxLocals := 2, code := prog_5_method_1_code, exceptionTable := #[], attributes := #[] }
def k3m0 : Method := { name := "<init>", desc := "(I)V", sig := { parameters := [.int], returnType := none }, accessFlags := 0, code := some k3c0 }
/-- com/example/hashwright/hashwright/BlockHasher -/
def k3 : Class := { plain "com/example/hashwright/hashwright/BlockHasher" (some 0) with
  accessFlags := 1056
  interfaces := #[2]
  cf := some (fileOf pool3 8 #[] #[{ accessFlags := 0, nameIndex := 5, descriptorIndex := 108, attributes := #[] }] 1056 2 #[106] #[{ accessFlags := 18, nameIndex := 11, descriptorIndex := 12, attributes := #[] }, { accessFlags := 2, nameIndex := 20, descriptorIndex := 21, attributes := #[] }, { accessFlags := 2, nameIndex := 24, descriptorIndex := 25, attributes := #[] }, { accessFlags := 2, nameIndex := 28, descriptorIndex := 29, attributes := #[] }])
  fields := #[{ name := "block", type := (.array .byte), accessFlags := 18, slot := 0, constantValue := 0 }, { name := "buffered", type := .int, accessFlags := 2, slot := 1, constantValue := 0 }, { name := "byteCount", type := .long, accessFlags := 2, slot := 2, constantValue := 0 }, { name := "finished", type := .boolean, accessFlags := 2, slot := 3, constantValue := 0 }]
  methods := #[k3m0]
  instanceTypes := #[(.array .byte), .int, .long, .boolean]
  staticTypes := #[]
  resolved := Array.replicate 134 none
  statics := none }

def pool4 : Array CpInfo := pool [(2, .class_ 4), (1, u "com/example/hashwright/hashwright/Digest"), (2, .class_ 8), (0, u "java/lang/Object"), (0, .class_ 10), (0, u "com/example/hashwright/hashwright/Hasher")] 11

/-- com/example/hashwright/hashwright/Digest -/
def k4 : Class := { plain "com/example/hashwright/hashwright/Digest" (some 0) with
  accessFlags := 1537
  interfaces := #[2]
  cf := some (fileOf pool4 2 #[] #[] 1537 7 #[9] #[])
  fields := #[]
  methods := #[]
  instanceTypes := #[]
  staticTypes := #[]
  resolved := Array.replicate 22 none
  statics := none }

def pool5 : Array CpInfo := pool [(1, .methodref 2 3), (0, .class_ 4), (0, .nameAndType 5 6), (0, u "com/example/hashwright/hashwright/Algorithm"), (0, u "standardName"), (0, u "()Ljava/lang/String;"), (0, .methodref 2 8), (0, .nameAndType 9 10), (0, u "digestLength"), (0, u "()I"), (0, .methodref 12 13), (0, .class_ 14), (0, .nameAndType 15 16), (0, u "com/example/hashwright/hashwright/BlockDigest"), (0, u "<init>"), (0, u "(Ljava/lang/String;II)V"), (0, .methodref 18 19), (0, .class_ 20), (0, .nameAndType 15 21), (0, u "com/example/hashwright/hashwright/BlockHasher"), (0, u "(I)V"), (0, .fieldref 12 23), (0, .nameAndType 24 25), (0, u "algorithm"), (0, u "Ljava/lang/String;"), (0, .fieldref 12 27), (0, .nameAndType 9 28), (0, u "I"), (15, .class_ 45), (0, u "com/example/hashwright/hashwright/Digest"), (0, u "(Lcom/example/hashwright/hashwright/Algorithm;I)V")] 7

def k5c0 : Code := { maxStack := 4, maxLocals := 3, code := prog_4_method_1_code, exceptionTable := #[], attributes := #[] }
def k5m0 : Method := { name := "<init>", desc := "(Lcom/example/hashwright/hashwright/Algorithm;I)V", sig := { parameters := [(.object "com/example/hashwright/hashwright/Algorithm"), .int], returnType := none }, accessFlags := 0, code := some k5c0 }
def k5c1 : Code := { maxStack := 2, maxLocals := 4, code := prog_4_method_2_code, exceptionTable := #[], attributes := #[] }
def k5m1 : Method := { name := "<init>", desc := "(Ljava/lang/String;II)V", sig := { parameters := [(.object "java/lang/String"), .int, .int], returnType := none }, accessFlags := 0, code := some k5c1 }
/-- com/example/hashwright/hashwright/BlockDigest -/
def k5 : Class := { plain "com/example/hashwright/hashwright/BlockDigest" (some 3) with
  accessFlags := 1056
  interfaces := #[4]
  cf := some (fileOf pool5 12 #[] #[{ accessFlags := 0, nameIndex := 15, descriptorIndex := 46, attributes := #[] }, { accessFlags := 0, nameIndex := 15, descriptorIndex := 16, attributes := #[] }] 1056 18 #[44] #[{ accessFlags := 18, nameIndex := 24, descriptorIndex := 25, attributes := #[] }, { accessFlags := 18, nameIndex := 9, descriptorIndex := 28, attributes := #[] }])
  fields := #[{ name := "algorithm", type := (.object "java/lang/String"), accessFlags := 18, slot := 4, constantValue := 0 }, { name := "digestLength", type := .int, accessFlags := 18, slot := 5, constantValue := 0 }]
  methods := #[k5m0, k5m1]
  instanceTypes := #[(.array .byte), .int, .long, .boolean, (.object "java/lang/String"), .int]
  staticTypes := #[]
  resolved := Array.replicate 54 none
  statics := none }

def pool6 : Array CpInfo := pool [(1, .methodref 2 3), (0, .class_ 4), (0, .nameAndType 5 6), (0, u "com/example/hashwright/hashwright/BlockDigest"), (0, u "<init>"), (0, u "(Lcom/example/hashwright/hashwright/Algorithm;I)V"), (0, .fieldref 8 9), (0, .class_ 10), (0, .nameAndType 11 12), (0, u "com/example/hashwright/hashwright/LengthPaddedDigest"), (0, u "lengthFieldBytes"), (0, u "I"), (15, u "LONG_BE"), (0, u "Ljava/lang/invoke/VarHandle;"), (20, u "(Lcom/example/hashwright/hashwright/Algorithm;II)V")] 9

def k6c0 : Code := { maxStack := 3, maxLocals := 4, code := prog_13_method_1_code, exceptionTable := #[], attributes := #[] }
def k6m0 : Method := { name := "<init>", desc := "(Lcom/example/hashwright/hashwright/Algorithm;II)V", sig := { parameters := [(.object "com/example/hashwright/hashwright/Algorithm"), .int, .int], returnType := none }, accessFlags := 0, code := some k6c0 }
/-- com/example/hashwright/hashwright/LengthPaddedDigest -/
def k6 : Class := { plain "com/example/hashwright/hashwright/LengthPaddedDigest" (some 5) with
  accessFlags := 1056
  interfaces := #[]
  cf := some (fileOf pool6 8 #[] #[{ accessFlags := 0, nameIndex := 5, descriptorIndex := 50, attributes := #[] }] 1056 2 #[] #[{ accessFlags := 26, nameIndex := 28, descriptorIndex := 29, attributes := #[] }, { accessFlags := 18, nameIndex := 11, descriptorIndex := 12, attributes := #[] }])
  fields := #[{ name := "LONG_BE", type := (.object "java/lang/invoke/VarHandle"), accessFlags := 26, slot := 0, constantValue := 0 }, { name := "lengthFieldBytes", type := .int, accessFlags := 18, slot := 6, constantValue := 0 }]
  methods := #[k6m0]
  instanceTypes := #[(.array .byte), .int, .long, .boolean, (.object "java/lang/String"), .int, .int]
  staticTypes := #[(.object "java/lang/invoke/VarHandle")]
  resolved := Array.replicate 60 none
  statics := none }

def pool7 : Array CpInfo := pool [(1, .methodref 2 3), (0, .class_ 4), (0, .nameAndType 5 6), (0, u "com/example/hashwright/hashwright/LengthPaddedDigest"), (0, u "<init>"), (0, u "(Lcom/example/hashwright/hashwright/Algorithm;II)V"), (0, .fieldref 8 9), (0, .class_ 10), (0, .nameAndType 11 12), (0, u "com/example/hashwright/hashwright/Sha512"), (0, u "schedule"), (0, u "[J"), (0, .fieldref 8 14), (0, .nameAndType 15 12), (0, u "initialState"), (0, .methodref 17 18), (0, .class_ 12), (0, .nameAndType 19 20), (0, u "clone"), (0, u "()Ljava/lang/Object;"), (0, .fieldref 8 22), (0, .nameAndType 23 12), (0, u "state"), (18, u "LONG_BE"), (0, u "Ljava/lang/invoke/VarHandle;"), (15, u "K"), (18, u "SHA_512_INITIAL"), (10, u "(Lcom/example/hashwright/hashwright/Algorithm;[J)V"), (19, u "([B)V"), (28, u "SQUARE_ROOTS"), (8, u "SHA_384_INITIAL"), (9, u "SHA_512_224_INITIAL"), (5, u "SHA_512_256_INITIAL"), (9, u "writeState")] 5

def k7c0 : Code := { maxStack := 4, maxLocals := 3, code := prog_16_method_1_code, exceptionTable := #[], attributes := #[] }
def k7m0 : Method := { name := "<init>", desc := "(Lcom/example/hashwright/hashwright/Algorithm;[J)V", sig := { parameters := [(.object "com/example/hashwright/hashwright/Algorithm"), (.array .long)], returnType := none }, accessFlags := 0, code := some k7c0 }
def k7c1 : Code := { maxStack := 8, maxLocals := 3, code := prog_16_method_7_code, exceptionTable := #[], attributes := #[] }
def k7m1 : Method := { name := "writeState", desc := "([B)V", sig := { parameters := [(.array .byte)], returnType := none }, accessFlags := 0, code := some k7c1 }
/-- com/example/hashwright/hashwright/Sha512 -/
def k7 : Class := { plain "com/example/hashwright/hashwright/Sha512" (some 6) with
  accessFlags := 48
  interfaces := #[]
  cf := some (fileOf pool7 8 #[] #[{ accessFlags := 0, nameIndex := 5, descriptorIndex := 89, attributes := #[] }, { accessFlags := 0, nameIndex := 173, descriptorIndex := 109, attributes := #[] }] 48 2 #[] #[{ accessFlags := 26, nameIndex := 42, descriptorIndex := 43, attributes := #[] }, { accessFlags := 26, nameIndex := 59, descriptorIndex := 12, attributes := #[] }, { accessFlags := 26, nameIndex := 138, descriptorIndex := 12, attributes := #[] }, { accessFlags := 24, nameIndex := 78, descriptorIndex := 12, attributes := #[] }, { accessFlags := 24, nameIndex := 147, descriptorIndex := 12, attributes := #[] }, { accessFlags := 24, nameIndex := 157, descriptorIndex := 12, attributes := #[] }, { accessFlags := 24, nameIndex := 163, descriptorIndex := 12, attributes := #[] }, { accessFlags := 18, nameIndex := 15, descriptorIndex := 12, attributes := #[] }, { accessFlags := 18, nameIndex := 23, descriptorIndex := 12, attributes := #[] }, { accessFlags := 18, nameIndex := 11, descriptorIndex := 12, attributes := #[] }])
  fields := #[{ name := "LONG_BE", type := (.object "java/lang/invoke/VarHandle"), accessFlags := 26, slot := 0, constantValue := 0 }, { name := "K", type := (.array .long), accessFlags := 26, slot := 1, constantValue := 0 }, { name := "SQUARE_ROOTS", type := (.array .long), accessFlags := 26, slot := 2, constantValue := 0 }, { name := "SHA_512_INITIAL", type := (.array .long), accessFlags := 24, slot := 3, constantValue := 0 }, { name := "SHA_384_INITIAL", type := (.array .long), accessFlags := 24, slot := 4, constantValue := 0 }, { name := "SHA_512_224_INITIAL", type := (.array .long), accessFlags := 24, slot := 5, constantValue := 0 }, { name := "SHA_512_256_INITIAL", type := (.array .long), accessFlags := 24, slot := 6, constantValue := 0 }, { name := "initialState", type := (.array .long), accessFlags := 18, slot := 7, constantValue := 0 }, { name := "state", type := (.array .long), accessFlags := 18, slot := 8, constantValue := 0 }, { name := "schedule", type := (.array .long), accessFlags := 18, slot := 9, constantValue := 0 }]
  methods := #[k7m0, k7m1]
  instanceTypes := #[(.array .byte), .int, .long, .boolean, (.object "java/lang/String"), .int, .int, (.array .long), (.array .long), (.array .long)]
  staticTypes := #[(.object "java/lang/invoke/VarHandle"), (.array .long), (.array .long), (.array .long), (.array .long), (.array .long), (.array .long)]
  resolved := Array.replicate 179 none
  statics := none }

def pool8 : Array CpInfo := pool [(1, .class_ 2), (0, u "java/lang/constant/Constable"), (0, .class_ 4), (0, u "java/lang/Object")] 6

/-- java/lang/constant/Constable -/
def k8 : Class := { plain "java/lang/constant/Constable" (some 0) with
  accessFlags := 1537
  interfaces := #[]
  cf := some (fileOf pool8 1 #[] #[] 1537 3 #[] #[])
  fields := #[]
  methods := #[]
  instanceTypes := #[]
  staticTypes := #[]
  resolved := Array.replicate 11 none
  statics := none }

def pool9 : Array CpInfo := pool [(1, .class_ 2), (0, u "java/lang/Comparable"), (0, .class_ 4), (0, u "java/lang/Object")] 7

/-- java/lang/Comparable -/
def k9 : Class := { plain "java/lang/Comparable" (some 0) with
  accessFlags := 1537
  interfaces := #[]
  cf := some (fileOf pool9 1 #[] #[] 1537 3 #[] #[])
  fields := #[]
  methods := #[]
  instanceTypes := #[]
  staticTypes := #[]
  resolved := Array.replicate 12 none
  statics := none }

def pool10 : Array CpInfo := pool [(1, .class_ 2), (0, u "java/io/Serializable"), (0, .class_ 4), (0, u "java/lang/Object")] 2

/-- java/io/Serializable -/
def k10 : Class := { plain "java/io/Serializable" (some 0) with
  accessFlags := 1537
  interfaces := #[]
  cf := some (fileOf pool10 1 #[] #[] 1537 3 #[] #[])
  fields := #[]
  methods := #[]
  instanceTypes := #[]
  staticTypes := #[]
  resolved := Array.replicate 7 none
  statics := none }

def pool11 : Array CpInfo := pool [(2, .class_ 4), (1, u "java/lang/Enum"), (0, u "name"), (0, u "Ljava/lang/String;"), (2, u "ordinal"), (0, u "I"), (1, .class_ 14), (1, u "java/lang/Object"), (4, u "hash"), (86, .class_ 108), (1, u "java/lang/Enum$EnumDesc"), (2, .class_ 112), (0, u "java/lang/constant/Constable"), (0, .class_ 114), (0, u "java/lang/Comparable"), (0, .class_ 116), (0, u "java/io/Serializable")] 87

/-- java/lang/Enum -/
def k11 : Class := { plain "java/lang/Enum" (some 0) with
  accessFlags := 1057
  interfaces := #[8, 9, 10]
  cf := some (fileOf pool11 2 #[.nestMembers #[106]] #[] 1057 12 #[111, 113, 115] #[{ accessFlags := 18, nameIndex := 5, descriptorIndex := 6, attributes := #[] }, { accessFlags := 18, nameIndex := 9, descriptorIndex := 10, attributes := #[] }, { accessFlags := 2, nameIndex := 19, descriptorIndex := 10, attributes := #[] }])
  fields := #[{ name := "name", type := (.object "java/lang/String"), accessFlags := 18, slot := 0, constantValue := 0 }, { name := "ordinal", type := .int, accessFlags := 18, slot := 1, constantValue := 0 }, { name := "hash", type := .int, accessFlags := 2, slot := 2, constantValue := 0 }]
  methods := #[]
  instanceTypes := #[(.object "java/lang/String"), .int, .int]
  staticTypes := #[]
  resolved := Array.replicate 204 none
  statics := none }

def pool12 : Array CpInfo := pool [(1, .class_ 2), (0, u "com/example/hashwright/hashwright/Algorithm"), (2, u "SHA_224"), (0, u "Lcom/example/hashwright/hashwright/Algorithm;"), (2, u "SHA_256"), (2, u "SHA_384"), (2, u "SHA_512"), (2, u "SHA_512_224"), (2, u "SHA_512_256"), (2, u "SHA3_224"), (2, u "SHA3_256"), (2, u "SHA3_384"), (2, u "SHA3_512"), (2, u "SHAKE128_256"), (2, u "SHAKE256_512"), (2, u "KECCAK_224"), (2, u "KECCAK_256"), (2, u "KECCAK_384"), (2, u "KECCAK_512"), (2, u "BLAKE2B_160"), (2, u "BLAKE2B_256"), (2, u "BLAKE2B_384"), (2, u "BLAKE2B_512"), (2, u "$VALUES"), (0, u "[Lcom/example/hashwright/hashwright/Algorithm;"), (6, .class_ 76), (1, u "java/lang/Enum"), (22, .fieldref 1 100), (0, .nameAndType 101 102), (0, u "standardName"), (0, u "Ljava/lang/String;"), (2, u "commandName"), (2, u "tagLabel"), (0, .fieldref 1 110), (0, .nameAndType 111 112), (0, u "digestLength"), (0, u "I"), (2, u "objectIdentifier"), (2, u "aliases"), (0, u "Ljava/util/List;"), (2, u "factory"), (0, u "Ljava/util/function/Function;"), (2, u "xofName"), (2, u "xofFactory"), (2, u "lengthFactory"), (0, u "Ljava/util/function/IntFunction;"), (16, u "()I"), (63, u "()Ljava/lang/String;")] 334

def k12c0 : Code := { maxStack := 1, maxLocals := 1, code := prog_1_method_7_code, exceptionTable := #[], attributes := #[] }
def k12m0 : Method := { name := "standardName", desc := "()Ljava/lang/String;", sig := { parameters := [], returnType := some (.object "java/lang/String") }, accessFlags := 1, code := some k12c0 }
def k12c1 : Code := { maxStack := 1, maxLocals := 1, code := prog_1_method_10_code, exceptionTable := #[], attributes := #[] }
def k12m1 : Method := { name := "digestLength", desc := "()I", sig := { parameters := [], returnType := some .int }, accessFlags := 1, code := some k12c1 }
/-- com/example/hashwright/hashwright/Algorithm -/
def k12 : Class := { plain "com/example/hashwright/hashwright/Algorithm" (some 11) with
  accessFlags := 16433
  interfaces := #[]
  cf := some (fileOf pool12 1 #[] #[{ accessFlags := 1, nameIndex := 101, descriptorIndex := 214, attributes := #[] }, { accessFlags := 1, nameIndex := 111, descriptorIndex := 150, attributes := #[] }] 16433 74 #[] #[{ accessFlags := 16409, nameIndex := 5, descriptorIndex := 6, attributes := #[] }, { accessFlags := 16409, nameIndex := 9, descriptorIndex := 6, attributes := #[] }, { accessFlags := 16409, nameIndex := 12, descriptorIndex := 6, attributes := #[] }, { accessFlags := 16409, nameIndex := 15, descriptorIndex := 6, attributes := #[] }, { accessFlags := 16409, nameIndex := 18, descriptorIndex := 6, attributes := #[] }, { accessFlags := 16409, nameIndex := 21, descriptorIndex := 6, attributes := #[] }, { accessFlags := 16409, nameIndex := 24, descriptorIndex := 6, attributes := #[] }, { accessFlags := 16409, nameIndex := 27, descriptorIndex := 6, attributes := #[] }, { accessFlags := 16409, nameIndex := 30, descriptorIndex := 6, attributes := #[] }, { accessFlags := 16409, nameIndex := 33, descriptorIndex := 6, attributes := #[] }, { accessFlags := 16409, nameIndex := 36, descriptorIndex := 6, attributes := #[] }, { accessFlags := 16409, nameIndex := 39, descriptorIndex := 6, attributes := #[] }, { accessFlags := 16409, nameIndex := 42, descriptorIndex := 6, attributes := #[] }, { accessFlags := 16409, nameIndex := 45, descriptorIndex := 6, attributes := #[] }, { accessFlags := 16409, nameIndex := 48, descriptorIndex := 6, attributes := #[] }, { accessFlags := 16409, nameIndex := 51, descriptorIndex := 6, attributes := #[] }, { accessFlags := 16409, nameIndex := 54, descriptorIndex := 6, attributes := #[] }, { accessFlags := 16409, nameIndex := 57, descriptorIndex := 6, attributes := #[] }, { accessFlags := 16409, nameIndex := 60, descriptorIndex := 6, attributes := #[] }, { accessFlags := 16409, nameIndex := 63, descriptorIndex := 6, attributes := #[] }, { accessFlags := 18, nameIndex := 101, descriptorIndex := 102, attributes := #[] }, { accessFlags := 18, nameIndex := 105, descriptorIndex := 102, attributes := #[] }, { accessFlags := 18, nameIndex := 108, descriptorIndex := 102, attributes := #[] }, { accessFlags := 18, nameIndex := 111, descriptorIndex := 112, attributes := #[] }, { accessFlags := 18, nameIndex := 115, descriptorIndex := 102, attributes := #[] }, { accessFlags := 18, nameIndex := 118, descriptorIndex := 119, attributes := #[] }, { accessFlags := 18, nameIndex := 122, descriptorIndex := 123, attributes := #[] }, { accessFlags := 18, nameIndex := 126, descriptorIndex := 102, attributes := #[] }, { accessFlags := 18, nameIndex := 129, descriptorIndex := 123, attributes := #[] }, { accessFlags := 18, nameIndex := 132, descriptorIndex := 133, attributes := #[] }, { accessFlags := 4122, nameIndex := 66, descriptorIndex := 67, attributes := #[] }])
  fields := #[{ name := "SHA_224", type := (.object "com/example/hashwright/hashwright/Algorithm"), accessFlags := 16409, slot := 0, constantValue := 0 }, { name := "SHA_256", type := (.object "com/example/hashwright/hashwright/Algorithm"), accessFlags := 16409, slot := 1, constantValue := 0 }, { name := "SHA_384", type := (.object "com/example/hashwright/hashwright/Algorithm"), accessFlags := 16409, slot := 2, constantValue := 0 }, { name := "SHA_512", type := (.object "com/example/hashwright/hashwright/Algorithm"), accessFlags := 16409, slot := 3, constantValue := 0 }, { name := "SHA_512_224", type := (.object "com/example/hashwright/hashwright/Algorithm"), accessFlags := 16409, slot := 4, constantValue := 0 }, { name := "SHA_512_256", type := (.object "com/example/hashwright/hashwright/Algorithm"), accessFlags := 16409, slot := 5, constantValue := 0 }, { name := "SHA3_224", type := (.object "com/example/hashwright/hashwright/Algorithm"), accessFlags := 16409, slot := 6, constantValue := 0 }, { name := "SHA3_256", type := (.object "com/example/hashwright/hashwright/Algorithm"), accessFlags := 16409, slot := 7, constantValue := 0 }, { name := "SHA3_384", type := (.object "com/example/hashwright/hashwright/Algorithm"), accessFlags := 16409, slot := 8, constantValue := 0 }, { name := "SHA3_512", type := (.object "com/example/hashwright/hashwright/Algorithm"), accessFlags := 16409, slot := 9, constantValue := 0 }, { name := "SHAKE128_256", type := (.object "com/example/hashwright/hashwright/Algorithm"), accessFlags := 16409, slot := 10, constantValue := 0 }, { name := "SHAKE256_512", type := (.object "com/example/hashwright/hashwright/Algorithm"), accessFlags := 16409, slot := 11, constantValue := 0 }, { name := "KECCAK_224", type := (.object "com/example/hashwright/hashwright/Algorithm"), accessFlags := 16409, slot := 12, constantValue := 0 }, { name := "KECCAK_256", type := (.object "com/example/hashwright/hashwright/Algorithm"), accessFlags := 16409, slot := 13, constantValue := 0 }, { name := "KECCAK_384", type := (.object "com/example/hashwright/hashwright/Algorithm"), accessFlags := 16409, slot := 14, constantValue := 0 }, { name := "KECCAK_512", type := (.object "com/example/hashwright/hashwright/Algorithm"), accessFlags := 16409, slot := 15, constantValue := 0 }, { name := "BLAKE2B_160", type := (.object "com/example/hashwright/hashwright/Algorithm"), accessFlags := 16409, slot := 16, constantValue := 0 }, { name := "BLAKE2B_256", type := (.object "com/example/hashwright/hashwright/Algorithm"), accessFlags := 16409, slot := 17, constantValue := 0 }, { name := "BLAKE2B_384", type := (.object "com/example/hashwright/hashwright/Algorithm"), accessFlags := 16409, slot := 18, constantValue := 0 }, { name := "BLAKE2B_512", type := (.object "com/example/hashwright/hashwright/Algorithm"), accessFlags := 16409, slot := 19, constantValue := 0 }, { name := "standardName", type := (.object "java/lang/String"), accessFlags := 18, slot := 3, constantValue := 0 }, { name := "commandName", type := (.object "java/lang/String"), accessFlags := 18, slot := 4, constantValue := 0 }, { name := "tagLabel", type := (.object "java/lang/String"), accessFlags := 18, slot := 5, constantValue := 0 }, { name := "digestLength", type := .int, accessFlags := 18, slot := 6, constantValue := 0 }, { name := "objectIdentifier", type := (.object "java/lang/String"), accessFlags := 18, slot := 7, constantValue := 0 }, { name := "aliases", type := (.object "java/util/List"), accessFlags := 18, slot := 8, constantValue := 0 }, { name := "factory", type := (.object "java/util/function/Function"), accessFlags := 18, slot := 9, constantValue := 0 }, { name := "xofName", type := (.object "java/lang/String"), accessFlags := 18, slot := 10, constantValue := 0 }, { name := "xofFactory", type := (.object "java/util/function/Function"), accessFlags := 18, slot := 11, constantValue := 0 }, { name := "lengthFactory", type := (.object "java/util/function/IntFunction"), accessFlags := 18, slot := 12, constantValue := 0 }, { name := "$VALUES", type := (.array (.object "com/example/hashwright/hashwright/Algorithm")), accessFlags := 4122, slot := 20, constantValue := 0 }]
  methods := #[k12m0, k12m1]
  instanceTypes := #[(.object "java/lang/String"), .int, .int, (.object "java/lang/String"), (.object "java/lang/String"), (.object "java/lang/String"), .int, (.object "java/lang/String"), (.object "java/util/List"), (.object "java/util/function/Function"), (.object "java/lang/String"), (.object "java/util/function/Function"), (.object "java/util/function/IntFunction")]
  staticTypes := #[(.object "com/example/hashwright/hashwright/Algorithm"), (.object "com/example/hashwright/hashwright/Algorithm"), (.object "com/example/hashwright/hashwright/Algorithm"), (.object "com/example/hashwright/hashwright/Algorithm"), (.object "com/example/hashwright/hashwright/Algorithm"), (.object "com/example/hashwright/hashwright/Algorithm"), (.object "com/example/hashwright/hashwright/Algorithm"), (.object "com/example/hashwright/hashwright/Algorithm"), (.object "com/example/hashwright/hashwright/Algorithm"), (.object "com/example/hashwright/hashwright/Algorithm"), (.object "com/example/hashwright/hashwright/Algorithm"), (.object "com/example/hashwright/hashwright/Algorithm"), (.object "com/example/hashwright/hashwright/Algorithm"), (.object "com/example/hashwright/hashwright/Algorithm"), (.object "com/example/hashwright/hashwright/Algorithm"), (.object "com/example/hashwright/hashwright/Algorithm"), (.object "com/example/hashwright/hashwright/Algorithm"), (.object "com/example/hashwright/hashwright/Algorithm"), (.object "com/example/hashwright/hashwright/Algorithm"), (.object "com/example/hashwright/hashwright/Algorithm"), (.array (.object "com/example/hashwright/hashwright/Algorithm"))]
  resolved := Array.replicate 549 none
  statics := some 0 }

def pool13 : Array CpInfo := pool [(1, .class_ 2), (0, u "java/lang/Cloneable"), (0, .class_ 4), (0, u "java/lang/Object")] 2

/-- java/lang/Cloneable -/
def k13 : Class := { plain "java/lang/Cloneable" (some 0) with
  accessFlags := 1537
  interfaces := #[]
  cf := some (fileOf pool13 1 #[] #[] 1537 3 #[] #[])
  fields := #[]
  methods := #[]
  instanceTypes := #[]
  staticTypes := #[]
  resolved := Array.replicate 7 none
  statics := none }

def pool14 : Array CpInfo := pool [(2, .class_ 4), (1, u "java/lang/CharSequence"), (42, .class_ 48), (0, u "java/lang/CharSequence$1CodePointIterator"), (10, .class_ 60), (0, u "java/lang/CharSequence$1CharIterator"), (5, .class_ 67), (0, u "java/lang/Object")] 63

/-- java/lang/CharSequence -/
def k14 : Class := { plain "java/lang/CharSequence" (some 0) with
  accessFlags := 1537
  interfaces := #[]
  cf := some (fileOf pool14 2 #[.nestMembers #[47, 59]] #[] 1537 66 #[] #[])
  fields := #[]
  methods := #[]
  instanceTypes := #[]
  staticTypes := #[]
  resolved := Array.replicate 131 none
  statics := none }

def pool15 : Array CpInfo := pool [(1, .class_ 2), (0, u "java/lang/constant/ConstantDesc"), (0, .class_ 4), (0, u "java/lang/Object")] 32

/-- java/lang/constant/ConstantDesc -/
def k15 : Class := { plain "java/lang/constant/ConstantDesc" (some 0) with
  accessFlags := 1537
  interfaces := #[]
  cf := some (fileOf pool15 1 #[] #[] 1537 3 #[] #[])
  fields := #[]
  methods := #[]
  instanceTypes := #[]
  staticTypes := #[]
  resolved := Array.replicate 37 none
  statics := none }

def pool16 : Array CpInfo := pool [(2, .class_ 4), (1, u "java/lang/Object"), (0, u "<init>"), (0, u "()V"), (3, .class_ 12), (1, u "java/lang/String"), (0, u "value"), (0, u "[B"), (2, u "coder"), (0, u "B"), (2, u "hash"), (0, u "I"), (2, u "hashIsZero"), (0, u "Z"), (13, u "COMPACT_STRINGS"), (534, .class_ 576), (0, u "java/lang/CharSequence"), (22, u "CASE_INSENSITIVE_ORDER"), (0, u "Ljava/util/Comparator;"), (500, u "serialPersistentFields"), (0, u "[Ljava/io/ObjectStreamField;"), (0, .class_ 1104), (0, u "java/lang/String$CaseInsensitiveComparator"), (1, .class_ 1107), (0, u "java/io/Serializable"), (0, .class_ 1109), (0, u "java/lang/Comparable"), (0, .class_ 1111), (0, u "java/lang/constant/Constable"), (0, .class_ 1113), (0, u "java/lang/constant/ConstantDesc"), (2, u "serialVersionUID"), (0, u "J"), (3, u "REPL"), (0, u "C"), (2, u "LATIN1"), (1, u "UTF16")] 323

def k16m0 : Method := { name := "<init>", desc := "()V", sig := { parameters := [], returnType := none }, accessFlags := 1, code := none }
/-- java/lang/String -/
def k16 : Class := { plain "java/lang/String" (some 0) with
  accessFlags := 49
  interfaces := #[10, 9, 14, 8, 15]
  cf := some (fileOf pool16 10 #[.nestMembers #[1103]] #[{ accessFlags := 1, nameIndex := 5, descriptorIndex := 6, attributes := #[] }] 49 2 #[1106, 1108, 575, 1110, 1112] #[{ accessFlags := 18, nameIndex := 13, descriptorIndex := 14, attributes := #[] }, { accessFlags := 18, nameIndex := 17, descriptorIndex := 18, attributes := #[] }, { accessFlags := 2, nameIndex := 21, descriptorIndex := 22, attributes := #[] }, { accessFlags := 2, nameIndex := 25, descriptorIndex := 26, attributes := #[] }, { accessFlags := 26, nameIndex := 1116, descriptorIndex := 1117, attributes := #[] }, { accessFlags := 24, nameIndex := 40, descriptorIndex := 26, attributes := #[] }, { accessFlags := 26, nameIndex := 1101, descriptorIndex := 1102, attributes := #[] }, { accessFlags := 26, nameIndex := 1121, descriptorIndex := 1122, attributes := #[] }, { accessFlags := 25, nameIndex := 599, descriptorIndex := 600, attributes := #[] }, { accessFlags := 24, nameIndex := 1125, descriptorIndex := 18, attributes := #[] }, { accessFlags := 24, nameIndex := 1127, descriptorIndex := 18, attributes := #[] }])
  fields := #[{ name := "value", type := (.array .byte), accessFlags := 18, slot := 0, constantValue := 0 }, { name := "coder", type := .byte, accessFlags := 18, slot := 1, constantValue := 0 }, { name := "hash", type := .int, accessFlags := 2, slot := 2, constantValue := 0 }, { name := "hashIsZero", type := .boolean, accessFlags := 2, slot := 3, constantValue := 0 }, { name := "serialVersionUID", type := .long, accessFlags := 26, slot := 0, constantValue := 0 }, { name := "COMPACT_STRINGS", type := .boolean, accessFlags := 24, slot := 1, constantValue := 0 }, { name := "serialPersistentFields", type := (.array (.object "java/io/ObjectStreamField")), accessFlags := 26, slot := 2, constantValue := 0 }, { name := "REPL", type := .char, accessFlags := 26, slot := 3, constantValue := 0 }, { name := "CASE_INSENSITIVE_ORDER", type := (.object "java/util/Comparator"), accessFlags := 25, slot := 4, constantValue := 0 }, { name := "LATIN1", type := .byte, accessFlags := 24, slot := 5, constantValue := 0 }, { name := "UTF16", type := .byte, accessFlags := 24, slot := 6, constantValue := 0 }]
  methods := #[k16m0]
  instanceTypes := #[(.array .byte), .byte, .int, .boolean]
  staticTypes := #[.long, .boolean, (.array (.object "java/io/ObjectStreamField")), .char, (.object "java/util/Comparator"), .byte, .byte]
  resolved := Array.replicate 1451 none
  statics := none }

/-- the primitive byte -/
def k17 : Class := { plain "byte" none with kind := .primitive 'B', accessFlags := 0x411 }
/-- [B -/
def k18 : Class := { plain "[B" (some 0) with kind := .array 17 .byte, interfaces := #[13, 10], accessFlags := 1041 }

/-- the primitive int -/
def k19 : Class := { plain "int" none with kind := .primitive 'I', accessFlags := 0x411 }
/-- [I -/
def k20 : Class := { plain "[I" (some 0) with kind := .array 19 .int, interfaces := #[13, 10], accessFlags := 1041 }

/-- the primitive long -/
def k21 : Class := { plain "long" none with kind := .primitive 'J', accessFlags := 0x411 }
/-- [J -/
def k22 : Class := { plain "[J" (some 0) with kind := .array 21 .long, interfaces := #[13, 10], accessFlags := 1041 }

def heap : Heap := #[{ cls := 12, slots := #[.null, .null, .null, .ref 2, .null, .null, .null, .null, .null, .null, .null, .null, .null, .null, .null, .null, .null, .null, .null, .null, .null], vm := .statics 12 },
  { cls := 16, slots := #[.null, .int 0, .int 0, .int 0], vm := .none },
  { cls := 12, slots := #[.null, .int 0, .int 0, .ref 1, .null, .null, .int 64, .null, .null, .null, .null, .null, .null], vm := .none }]
def classes : Array Class := #[k0, k1, k2, k3, k4, k5, k6, k7, k8, k9, k10, k11, k12, k13, k14, k15, k16, k17, k18, k19, k20, k21, k22]
def interned : List (Array UInt16 × Addr) := []
def slotsUsed : Nat := 38
def theMethod : MethodId := ⟨1, 1⟩
def args0 : Array Value := #[.long 0, .long 1, .long 2, .long 3, .long 4, .int 9]
def aboutOver (below : List Frame) : State where
  vm := { classes := classes, interned := interned.toArray }
  heap := heap
  slotsUsed := slotsUsed
  threads := #[{ frames := .invoking theMethod args0 :: below }]
def below0 : List Frame := [.native { method := ⟨0, 0⟩, args := #[] }]
def about1 : State := aboutOver below0
def p0 : Program := .bare "" "" ""
def e0 : Env := launch0.env 0 0 0
theorem w_frames : about1.frames = Frame.invoking theMethod args0 :: below0 := rfl
set_option maxRecDepth 65536 in
theorem w_args : argsFit about1.vm theMethod args0 = true := by decide +kernel
set_option maxRecDepth 65536 in
theorem w_heap : heapFits about1 = true := by decide +kernel
set_option maxRecDepth 65536 in
theorem w_runnable : about1.curStatus? = some .runnable := by decide +kernel
set_option maxRecDepth 65536 in
theorem w_alone : about1.alone = true := by decide +kernel
set_option maxRecDepth 65536 in
theorem w_named : about1.methodNamed? x = some theMethod := by decide +kernel
set_option maxRecDepth 65536 in
theorem w_hears : about1.hears theMethod below0 = true := by decide +kernel
set_option maxRecDepth 65536 in
theorem w_ripe : about1.ripe theMethod args0 below0 = true := by decide +kernel
theorem w_running : about1.status = .running := rfl
set_option maxRecDepth 65536 in
theorem w_room : about1.hasRoom e0.platform room_1 = true :=
  launch0.hasRoom_least _ room_1 (by decide +kernel) (by decide +kernel) (by decide +kernel) (by decide +kernel) (by decide +kernel) (by decide +kernel)
theorem allAtoms_all (ts : List Jvm.Cond) (a : Array Jvm.Value) (st : Jvm.State) : (allAtoms ts).before a st = ts.all (fun c => c.before a st) := by
  induction ts with
  | nil => rfl
  | cons c t ih =>
    show (Jvm.Cond.and c (allAtoms t)).before a st = _
    rw [Jvm.Cond.before_and, ih, List.all_cons]
def words1 : List Jvm.Cond := Jvm.Cond.code x code maxLocals ret :: tables_1
/-- a 'code' word, met by the world's own term for the bytes: nothing is compared byte by byte -/
theorem code_word {y : MethodName} {bytes : ByteArray} {mx : Nat} {rt : Option FieldType} {a : Array Value} {s : State} {m : MethodId} {meth : Method} {c : Code} (h1 : s.methodNamed? y = some m) (h2 : s.vm.method? m = some meth) (h3 : meth.code = some c) (h4 : c.code = bytes)
    (h5 : (c.maxLocals == mx && c.exceptionTable.isEmpty && decide (c.maxStack ≤ mostOperands) && decide (meth.sig.returnType = rt) && !meth.locks && decide (parseMethodDescriptor y.desc = some meth.sig)) = true) : (Jvm.Cond.code y bytes mx rt).before a s = true := by
  simp only [Bool.and_eq_true, beq_iff_eq, Bool.not_eq_true', decide_eq_true_eq] at h5
  obtain ⟨⟨⟨⟨⟨g1, g2⟩, g3⟩, g4⟩, g5⟩, g6⟩ := h5
  simp [Cond.before, Cond.holds, Cond.value, h1, h2, h3, h4, g1, g2, g3, g4, g5, g6]
def isCode : Jvm.Cond → Bool
  | .code _ _ _ _ => true
  | _ => false
theorem all_split {L : List Jvm.Cond} {P : Jvm.Cond → Bool} (h1 : L.all (fun c => isCode c || P c) = true) (h2 : ∀ c ∈ L.filter isCode, P c = true) : L.all P = true := by
  refine List.all_eq_true.mpr fun c hc => ?_
  have h := List.all_eq_true.mp h1 c hc
  rcases Bool.eq_false_or_eq_true (isCode c) with hi | hi
  · exact h2 c (List.mem_filter.mpr ⟨hc, hi⟩)
  · simpa [hi] using h
set_option maxRecDepth 65536 in
theorem w_c0 : (Jvm.Cond.code x code maxLocals ret).before args0 about1 = true := code_word (m := ⟨1, 1⟩) (meth := k1m1) (c := k1c1) (by decide +kernel) rfl rfl rfl (by decide +kernel)
set_option maxRecDepth 65536 in
theorem w_c1 : (Jvm.Cond.code ({ cls := "com/example/hashwright/hashwright/Sha512", name := "<init>", desc := "(Lcom/example/hashwright/hashwright/Algorithm;[J)V" } : Jvm.MethodName) prog_16_method_1_code (3 : Nat) (Option.none : Option Jvm.ClassFile.FieldType)).before args0 about1 = true := code_word (m := ⟨7, 0⟩) (meth := k7m0) (c := k7c0) (by decide +kernel) rfl rfl rfl (by decide +kernel)
set_option maxRecDepth 65536 in
theorem w_c2 : (Jvm.Cond.code ({ cls := "com/example/hashwright/hashwright/LengthPaddedDigest", name := "<init>", desc := "(Lcom/example/hashwright/hashwright/Algorithm;II)V" } : Jvm.MethodName) prog_13_method_1_code (4 : Nat) (Option.none : Option Jvm.ClassFile.FieldType)).before args0 about1 = true := code_word (m := ⟨6, 0⟩) (meth := k6m0) (c := k6c0) (by decide +kernel) rfl rfl rfl (by decide +kernel)
set_option maxRecDepth 65536 in
theorem w_c3 : (Jvm.Cond.code ({ cls := "com/example/hashwright/hashwright/BlockDigest", name := "<init>", desc := "(Lcom/example/hashwright/hashwright/Algorithm;I)V" } : Jvm.MethodName) prog_4_method_1_code (3 : Nat) (Option.none : Option Jvm.ClassFile.FieldType)).before args0 about1 = true := code_word (m := ⟨5, 0⟩) (meth := k5m0) (c := k5c0) (by decide +kernel) rfl rfl rfl (by decide +kernel)
set_option maxRecDepth 65536 in
theorem w_c4 : (Jvm.Cond.code ({ cls := "com/example/hashwright/hashwright/Algorithm", name := "standardName", desc := "()Ljava/lang/String;" } : Jvm.MethodName) prog_1_method_7_code (1 : Nat) (Option.some (Jvm.ClassFile.FieldType.object "java/lang/String"))).before args0 about1 = true := code_word (m := ⟨12, 0⟩) (meth := k12m0) (c := k12c0) (by decide +kernel) rfl rfl rfl (by decide +kernel)
set_option maxRecDepth 65536 in
theorem w_c5 : (Jvm.Cond.code ({ cls := "com/example/hashwright/hashwright/Algorithm", name := "digestLength", desc := "()I" } : Jvm.MethodName) prog_1_method_10_code (1 : Nat) (Option.some Jvm.ClassFile.FieldType.int)).before args0 about1 = true := code_word (m := ⟨12, 1⟩) (meth := k12m1) (c := k12c1) (by decide +kernel) rfl rfl rfl (by decide +kernel)
set_option maxRecDepth 65536 in
theorem w_c6 : (Jvm.Cond.code ({ cls := "com/example/hashwright/hashwright/BlockDigest", name := "<init>", desc := "(Ljava/lang/String;II)V" } : Jvm.MethodName) prog_4_method_2_code (4 : Nat) (Option.none : Option Jvm.ClassFile.FieldType)).before args0 about1 = true := code_word (m := ⟨5, 1⟩) (meth := k5m1) (c := k5c1) (by decide +kernel) rfl rfl rfl (by decide +kernel)
set_option maxRecDepth 65536 in
theorem w_c7 : (Jvm.Cond.code ({ cls := "com/example/hashwright/hashwright/BlockHasher", name := "<init>", desc := "(I)V" } : Jvm.MethodName) prog_5_method_1_code (2 : Nat) (Option.none : Option Jvm.ClassFile.FieldType)).before args0 about1 = true := code_word (m := ⟨3, 0⟩) (meth := k3m0) (c := k3c0) (by decide +kernel) rfl rfl rfl (by decide +kernel)
set_option maxRecDepth 65536 in
theorem w_c8 : (Jvm.Cond.code ({ cls := "java/lang/Object", name := "<init>", desc := "()V" } : Jvm.MethodName) object_method_1_code (1 : Nat) (Option.none : Option Jvm.ClassFile.FieldType)).before args0 about1 = true := code_word (m := ⟨0, 0⟩) (meth := k0m0) (c := k0c0) (by decide +kernel) rfl rfl rfl (by decide +kernel)
set_option maxRecDepth 65536 in
theorem w_c9 : (Jvm.Cond.code ({ cls := "com/example/hashwright/hashwright/Sha512", name := "writeState", desc := "([B)V" } : Jvm.MethodName) prog_16_method_7_code (3 : Nat) (Option.none : Option Jvm.ClassFile.FieldType)).before args0 about1 = true := code_word (m := ⟨7, 1⟩) (meth := k7m1) (c := k7c1) (by decide +kernel) rfl rfl rfl (by decide +kernel)
set_option maxRecDepth 65536 in
theorem w_c10 : (Jvm.Cond.code ({ cls := "com/example/hashwright/hashwright/Sha512WriteStatePinLaw", name := "be", desc := "([JI)B" } : Jvm.MethodName) method_3_code (4 : Nat) (Option.some Jvm.ClassFile.FieldType.byte)).before args0 about1 = true := code_word (m := ⟨1, 2⟩) (meth := k1m2) (c := k1c2) (by decide +kernel) rfl rfl rfl (by decide +kernel)
def codes1 : List Jvm.Cond := [Jvm.Cond.code x code maxLocals ret, Jvm.Cond.code ({ cls := "com/example/hashwright/hashwright/Sha512", name := "<init>", desc := "(Lcom/example/hashwright/hashwright/Algorithm;[J)V" } : Jvm.MethodName) prog_16_method_1_code (3 : Nat) (Option.none : Option Jvm.ClassFile.FieldType), Jvm.Cond.code ({ cls := "com/example/hashwright/hashwright/LengthPaddedDigest", name := "<init>", desc := "(Lcom/example/hashwright/hashwright/Algorithm;II)V" } : Jvm.MethodName) prog_13_method_1_code (4 : Nat) (Option.none : Option Jvm.ClassFile.FieldType), Jvm.Cond.code ({ cls := "com/example/hashwright/hashwright/BlockDigest", name := "<init>", desc := "(Lcom/example/hashwright/hashwright/Algorithm;I)V" } : Jvm.MethodName) prog_4_method_1_code (3 : Nat) (Option.none : Option Jvm.ClassFile.FieldType), Jvm.Cond.code ({ cls := "com/example/hashwright/hashwright/Algorithm", name := "standardName", desc := "()Ljava/lang/String;" } : Jvm.MethodName) prog_1_method_7_code (1 : Nat) (Option.some (Jvm.ClassFile.FieldType.object "java/lang/String")), Jvm.Cond.code ({ cls := "com/example/hashwright/hashwright/Algorithm", name := "digestLength", desc := "()I" } : Jvm.MethodName) prog_1_method_10_code (1 : Nat) (Option.some Jvm.ClassFile.FieldType.int), Jvm.Cond.code ({ cls := "com/example/hashwright/hashwright/BlockDigest", name := "<init>", desc := "(Ljava/lang/String;II)V" } : Jvm.MethodName) prog_4_method_2_code (4 : Nat) (Option.none : Option Jvm.ClassFile.FieldType), Jvm.Cond.code ({ cls := "com/example/hashwright/hashwright/BlockHasher", name := "<init>", desc := "(I)V" } : Jvm.MethodName) prog_5_method_1_code (2 : Nat) (Option.none : Option Jvm.ClassFile.FieldType), Jvm.Cond.code ({ cls := "java/lang/Object", name := "<init>", desc := "()V" } : Jvm.MethodName) object_method_1_code (1 : Nat) (Option.none : Option Jvm.ClassFile.FieldType), Jvm.Cond.code ({ cls := "com/example/hashwright/hashwright/Sha512", name := "writeState", desc := "([B)V" } : Jvm.MethodName) prog_16_method_7_code (3 : Nat) (Option.none : Option Jvm.ClassFile.FieldType), Jvm.Cond.code ({ cls := "com/example/hashwright/hashwright/Sha512WriteStatePinLaw", name := "be", desc := "([JI)B" } : Jvm.MethodName) method_3_code (4 : Nat) (Option.some Jvm.ClassFile.FieldType.byte)]
set_option maxRecDepth 65536 in
theorem codes_eq : words1.filter isCode = codes1 := rfl
theorem w_codes : ∀ c ∈ words1.filter isCode, c.before args0 about1 = true := by
  rw [codes_eq]
  intro c hc
  simp only [codes1, List.mem_cons, List.not_mem_nil, or_false] at hc
  rcases hc with rfl | rfl | rfl | rfl | rfl | rfl | rfl | rfl | rfl | rfl | rfl
  · exact w_c0
  · exact w_c1
  · exact w_c2
  · exact w_c3
  · exact w_c4
  · exact w_c5
  · exact w_c6
  · exact w_c7
  · exact w_c8
  · exact w_c9
  · exact w_c10
set_option maxRecDepth 65536 in
theorem w_t1 : (words1.take 24).all (fun c => isCode c || c.before args0 about1) = true := by decide +kernel
set_option maxRecDepth 65536 in
theorem w_t2 : ((words1.drop 24).take 24).all (fun c => isCode c || c.before args0 about1) = true := by decide +kernel
set_option maxRecDepth 65536 in
theorem w_t3 : (((words1.drop 24).drop 24).take 24).all (fun c => isCode c || c.before args0 about1) = true := by decide +kernel
set_option maxRecDepth 65536 in
theorem w_t4 : (((words1.drop 24).drop 24).drop 24).all (fun c => isCode c || c.before args0 about1) = true := by decide +kernel
theorem w_tables : (allAtoms (Jvm.Cond.code x code maxLocals ret :: tables_1)).before args0 about1 = true := by
  rw [allAtoms_all]
  show words1.all (fun c => c.before args0 about1) = true
  refine all_split ?_ w_codes
  rw [← List.take_append_drop 24 words1, List.all_append, w_t1, ← List.take_append_drop 24 (words1.drop 24), List.all_append, w_t2, ← List.take_append_drop 24 ((words1.drop 24).drop 24), List.all_append, w_t3, w_t4]
  rfl
set_option maxRecDepth 65536 in
theorem w_case : (Jvm.Cond.and given_1 narrow_1).before args0 about1 = true := by decide +kernel
theorem w_applies : (headSpec (Jvm.Cond.code x code maxLocals ret :: tables_1) room_1).applies x e0.platform about1 = true :=
  (Spec.applies_iff w_frames).mpr ⟨w_running, w_runnable, w_alone, w_named, w_hears, w_ripe, w_room, w_tables⟩
theorem atStart : AtStart classFile x code maxLocals ret World_1 tables_1 room_1 Calls_1 rest_1 Pre_1 launch0 p0 e0 about1 theMethod args0 below0 :=
  ⟨lists_1, trivial, launch0.admits_env _ _ _, launch0.least_env, fairChoices_fair.cas, fairChoices_fair.clock, w_frames, w_args, w_heap, w_applies, trivial, trivial, w_case⟩
end start1
theorem witness_1 : WitnessClaimed_1 := ⟨start1.p0, start1.e0, start1.about1, start1.theMethod, start1.args0, start1.below0, start1.atStart⟩
end Jvm.Pilot.@@N@@
