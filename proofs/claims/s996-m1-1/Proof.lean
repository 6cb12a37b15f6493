import JvmDerived
import JvmDerived.Pilot.@@N@@Statement
import JvmDerived.Pilot.@@N@@Code
set_option linter.unusedVariables false
set_option linter.unusedSimpArgs false
@@BLOCK:NumsL.lean.txt@@
namespace Jvm.RoadKit
open Sem ClassFile Op Lib Jvm.Stand Jvm.Free Jvm.LawKit
section Own
variable {p : Program} {l : Launch} {e : Env} {R : Room} {s : State} {m : MethodId} {args : Array Value} {below : List Frame} {meth : Method} {c : Code} {T T' : State} {locs : List Loc} {cells slots : Nat}
theorem retI (X : Stand p l e R s m args below meth c T locs cells slots) (hx : p.tables.exec = Jvm.exec) {pc : Nat} {Ls : Array Slot} {z : Int32} {rest : List Value} (hret : meth.sig.returnType = some .int) (hd : decode c.code pc = .ok (.ireturn, 1)) {fs : List Frame}
    (hl : ∀ (f : JFrame) (acts : List Action), f.method = m → f.locked = none → f.entered = [] → (doReturn e (T.setTop f) acts (some (.int z))).1 = T.setFrames fs) : Steps p.tables e below (T.setTop (mkF m pc Ls (.int z :: rest))) (T.setFrames fs) := by
  have hm' : T.vm.method? m = some meth := X.method'
  have hn : narrow .int (.int z) = .int z := rfl
  show Steps p.tables e below (T.setTop { method := m, pc := pc, locals := Ls, stack := _ :: rest, locked := none }) _
  jvm_step X.here [X.here.top, hx, hd, hm', hret, hn]
  first | (intro acts; rw [hl _ acts rfl rfl rfl]) | rw [hl _ _ rfl rfl rfl]
  exact Steps.refl _
/-- what is left of a walk: it comes to an end at which K holds -/
def own_Go (p : Program) (e : Env) (below : List Frame) (K : Outcome → State → Prop) (T : State) (g : JFrame) : Prop := ∃ s₂ o, Steps p.tables e below (T.setTop g) s₂ ∧ s₂.status = .running ∧ Ended s₂ below o ∧ K o s₂
def own_K (s : State) (Q : Option Value → Heap → List Loc → Prop) (C S : Nat) (o : Outcome) (U' : State) : Prop := ∃ v L, o = .returned v ∧ Q v U'.heap L ∧ FrameEnd s o U' L C S
variable {K : Outcome → State → Prop} {g g' : JFrame} {Q : Option Value → Heap → List Loc → Prop} {C S : Nat}
theorem own_st (st : ∀ target, Steps p.tables e below (T'.setTop g') target → Steps p.tables e below (T.setTop g) target) (k : own_Go p e below K T' g') : own_Go p e below K T g := by
  obtain ⟨s2, o, h1, h2⟩ := k
  exact ⟨s2, o, st _ h1, h2⟩
theorem own_tr (st : Steps p.tables e below (T.setTop g) (T'.setTop g')) (k : own_Go p e below K T' g') : own_Go p e below K T g := by
  obtain ⟨s2, o, h1, h2⟩ := k
  exact ⟨s2, o, st.trans h1, h2⟩
theorem own_end (X : Stand p l e R s m args below meth c T locs cells slots) (hlk : meth.locks = false) {v : Option Value} (hv : meth.sig.returnType = none → v = none)
    (hst : ∀ fs, (∀ (f : JFrame) (acts : List Action), f.method = m → f.locked = none → f.entered = [] → (doReturn e (T.setTop f) acts v).1 = T.setFrames fs) → Steps p.tables e below (T.setTop g) (T.setFrames fs)) (hc : cells ≤ C) (hs : slots ≤ S) (hQ : Q v T.heap locs) :
    own_Go p e below (own_K s Q C S) T g := by
  obtain ⟨fs, hr, hrun, hended, hW, hsame⟩ := X.leave (v := v) hv hlk
  exact ⟨_, _, hst fs hr, hrun, hended, _, _, rfl, hQ, ⟨_, rfl⟩, hW, hsame.mono hc hs⟩
theorem own_retI (X : Stand p l e R s m args below meth c T locs cells slots) (hx : p.tables.exec = Jvm.exec) (hlk : meth.locks = false) {pc : Nat} {Ls : Array Slot} {z : Int32} {rest : List Value} (hret : meth.sig.returnType = some .int) (hd : decode c.code pc = .ok (.ireturn, 1)) (hc : cells ≤ C) (hs : slots ≤ S) (hQ : Q (some (.int z)) T.heap locs) :
    own_Go p e below (own_K s Q C S) T (mkF m pc Ls (.int z :: rest)) := own_end X hlk (fun h => by rw [hret] at h; cases h) (fun fs hr => retI X hx hret hd hr) hc hs hQ
theorem own_retN (X : Stand p l e R s m args below meth c T locs cells slots) (hx : p.tables.exec = Jvm.exec) (hlk : meth.locks = false) {pc : Nat} {Ls : Array Slot} {z : Int32} {t : FieldType} {rest : List Value} (hret : meth.sig.returnType = some t) (ht : t = .boolean ∨ t = .byte ∨ t = .char ∨ t = .short) (hd : decode c.code pc = .ok (.ireturn, 1)) (hc : cells ≤ C) (hs : slots ≤ S) (hQ : Q (some (.int (nar t z))) T.heap locs) :
    own_Go p e below (own_K s Q C S) T (mkF m pc Ls (.int z :: rest)) := own_end X hlk (fun h => by rw [hret] at h; cases h) (fun fs hr => retN X hx hret ht hd hr) hc hs hQ
theorem own_retA (X : Stand p l e R s m args below meth c T locs cells slots) (hx : p.tables.exec = Jvm.exec) (hlk : meth.locks = false) {pc : Nat} {Ls : Array Slot} {v : Value} {t : FieldType} {rest : List Value} (hret : meth.sig.returnType = some t) (ht : t.isReference = true) (hv : v.isRef = true) (hd : decode c.code pc = .ok (.areturn, 1)) (hc : cells ≤ C) (hs : slots ≤ S) (hQ : Q (some v) T.heap locs) :
    own_Go p e below (own_K s Q C S) T (mkF m pc Ls (v :: rest)) := own_end X hlk (fun h => by rw [hret] at h; cases h) (fun fs hr => retOut X hx hret (by cases t <;> first | (cases ht; done) | (cases v <;> first | rfl | (cases hv; done))) (Or.inr (Or.inr (Or.inr (Or.inr ⟨rfl, ht, hv⟩)))) hd hr) hc hs hQ
theorem own_retL (X : Stand p l e R s m args below meth c T locs cells slots) (hx : p.tables.exec = Jvm.exec) (hlk : meth.locks = false) {pc : Nat} {Ls : Array Slot} {w : Int64} (hret : meth.sig.returnType = some .long) (hd : decode c.code pc = .ok (.lreturn, 1)) (hc : cells ≤ C) (hs : slots ≤ S) (hQ : Q (some (.long w)) T.heap locs) :
    own_Go p e below (own_K s Q C S) T (mkF m pc Ls [.long w]) := own_end X hlk (fun h => by rw [hret] at h; cases h) (fun fs hr => X.lreturnOut hx hret hd hr) hc hs hQ
theorem own_ret (X : Stand p l e R s m args below meth c T locs cells slots) (hx : p.tables.exec = Jvm.exec) (hlk : meth.locks = false) {pc : Nat} {Ls : Array Slot} (hret : meth.sig.returnType = none) (hd : decode c.code pc = .ok (.return_, 1)) (hc : cells ≤ C) (hs : slots ≤ S) (hQ : Q none T.heap locs) :
    own_Go p e below (own_K s Q C S) T (mkF m pc Ls []) := own_end X hlk (fun _ => rfl) (fun fs hr => X.returnOut hx hret hd hr) hc hs hQ
variable {Z : State} {h : Heap} {a : Addr} {k : ClassId} {ty : FieldType} {z j : Int32} {vs : List Value} {dv v : Value} {rest : List Value} {target : State}
theorem own_len (X : Stand p l e R s m args below meth c T locs cells slots) (hx : p.tables.exec = Jvm.exec) (hZ : Z.Warmed39 s.vm) (eT : T.heap = h) (F : Arv Z h a k ty z vs dv) (hg : g.method = m) (hs : g.stack = .ref a :: rest) (hd : decode c.code g.pc = .ok (.arraylength, 1))
    (hr : Steps p.tables e below (T.setTop { g with pc := g.pc + 1, stack := .int z :: rest }) target) : Steps p.tables e below (T.setTop g) target := by
  obtain ⟨cl, A, -, S, q, -, -⟩ := F
  refine X.arraylength hx (by rw [eT]; exact A.1) (State.isArrayOf_alike hZ.alike A.2.1) hg hs hd _ ?_
  rw [len_of S q]
  exact hr
theorem own_ldR (X : Stand p l e R s m args below meth c T locs cells slots) (hx : p.tables.exec = Jvm.exec) (hZ : Z.Warmed39 s.vm) (eT : T.heap = h) (F : Arv Z h a k ty z vs dv) (hty : ty.isReference = true) (hj : ¬ j < 0 ∧ j < z) (hv : vs.getD j.toNatClampNeg dv = v) (hg : g.method = m) (hs : g.stack = .int j :: .ref a :: rest) (hd : decode c.code g.pc = .ok (.aaload, 1))
    (hr : Steps p.tables e below (T.setTop { g with pc := g.pc + 1, stack := v :: rest }) target) : Steps p.tables e below (T.setTop g) target := by
  obtain ⟨cl, A, -, S, q, H, -⟩ := F
  exact X.aaload hx (by rw [eT]; exact A.1) (State.isArrayOf_alike hZ.alike A.2.1) hty A.2.2 (inb_of S hj) (H.at (inb_of S hj) hv) hg hs hd _ hr
theorem own_ldB (X : Stand p l e R s m args below meth c T locs cells slots) (hx : p.tables.exec = Jvm.exec) (hZ : Z.Warmed39 s.vm) (eT : T.heap = h) (F : Arv Z h a k .byte z vs dv) (hj : ¬ j < 0 ∧ j < z) (hv : vs.getD j.toNatClampNeg dv = v) (hg : g.method = m) (hs : g.stack = .int j :: .ref a :: rest) (hd : decode c.code g.pc = .ok (.baload, 1))
    (hr : Steps p.tables e below (T.setTop { g with pc := g.pc + 1, stack := v :: rest }) target) : Steps p.tables e below (T.setTop g) target := by
  obtain ⟨cl, A, -, S, q, H, -⟩ := F
  exact X.baloadBytes hx (by rw [eT]; exact A.1) (State.isArrayOf_alike hZ.alike A.2.1) A.2.2 (inb_of S hj) (H.at (inb_of S hj) hv) hg hs hd _ hr
theorem own_ldJ (X : Stand p l e R s m args below meth c T locs cells slots) (hx : p.tables.exec = Jvm.exec) (hZ : Z.Warmed39 s.vm) (eT : T.heap = h) (F : Arv Z h a k .long z vs dv) (hj : ¬ j < 0 ∧ j < z) (hv : vs.getD j.toNatClampNeg dv = v) (hg : g.method = m) (hs : g.stack = .int j :: .ref a :: rest) (hd : decode c.code g.pc = .ok (.laload, 1))
    (hr : Steps p.tables e below (T.setTop { g with pc := g.pc + 1, stack := v :: rest }) target) : Steps p.tables e below (T.setTop g) target := by
  obtain ⟨cl, A, -, S, q, H, -⟩ := F
  exact X.laload hx (by rw [eT]; exact A.1) (State.isArrayOf_alike hZ.alike A.2.1) A.2.2 (inb_of S hj) (H.at (inb_of S hj) hv) hg hs hd _ hr
theorem own_stB (X : Stand p l e R s m args below meth c T locs cells slots) (hx : p.tables.exec = Jvm.exec) (hZ : Z.Warmed39 s.vm) (eT : T.heap = h) (F : Arv Z h a k .byte z vs dv) {x : Int32} (hj : ¬ j < 0 ∧ j < z) (i : Nat) (hi : j.toNatClampNeg = i) (hl : i < vs.length) (hg : g.method = m) (hs : g.stack = .int x :: .int j :: .ref a :: rest) (hd : decode c.code g.pc = .ok (.bastore, 1)) :
    ∃ T' h', Stand p l e R s m args below meth c T' (locs ++ [⟨a, j.toNatClampNeg⟩]) cells slots ∧ T'.heap = h' ∧ Wr h h' a j.toNatClampNeg (.int (nar .byte x)) ∧ Arv Z h' a k .byte z (vs.set i (.int x.toInt8.toInt32)) dv ∧ ∀ target, Steps p.tables e below (T'.setTop { g with pc := g.pc + 1, stack := rest }) target → Steps p.tables e below (T.setTop g) target := by
  obtain ⟨cl, A, q1, S, q3, H, G⟩ := F
  obtain ⟨T', h', X', e', W, st⟩ := stB X hx hZ eT A (inb_of S hj) hg hs hd
  exact ⟨T', h', X', e', W, Arv.set A q1 S q3 H G (fits_nar_byte _) W i hi hl, st⟩
theorem own_pushB (X : Stand p l e R s m args below meth c T locs cells slots) (hx : p.tables.exec = Jvm.exec) (hZ : Z.Warmed39 s.vm) (eT : T.heap = h) (F : Arv Z h a k .byte z vs dv) {x : Int32} (hj : ¬ j < 0 ∧ j < z) (hi : j.toNatClampNeg = vs.length) (hg : g.method = m) (hs : g.stack = .int x :: .int j :: .ref a :: rest) (hd : decode c.code g.pc = .ok (.bastore, 1)) :
    ∃ T' h', Stand p l e R s m args below meth c T' (locs ++ [⟨a, j.toNatClampNeg⟩]) cells slots ∧ T'.heap = h' ∧ Wr h h' a j.toNatClampNeg (.int (nar .byte x)) ∧ Arv Z h' a k .byte z (vs ++ [.int x.toInt8.toInt32]) dv ∧ ∀ target, Steps p.tables e below (T'.setTop { g with pc := g.pc + 1, stack := rest }) target → Steps p.tables e below (T.setTop g) target := by
  have F' : Arv Z h a k .byte z (vs ++ List.replicate 1 dv) dv := F.pad (pad_rep vs dv 1)
  obtain ⟨cl, A, q1, S, q3, H, G⟩ := F'
  obtain ⟨T', h', X', e', W, st⟩ := stB X hx hZ eT A (inb_of S hj) hg hs hd
  have V := Arv.set A q1 S q3 H G (fits_nar_byte _) W vs.length hi (by simp)
  have e : (vs ++ List.replicate 1 dv).set vs.length (.int x.toInt8.toInt32) = vs ++ [.int x.toInt8.toInt32] := by simp
  exact ⟨T', h', X', e', W, e ▸ V, st⟩
theorem own_stJ (X : Stand p l e R s m args below meth c T locs cells slots) (hx : p.tables.exec = Jvm.exec) (hZ : Z.Warmed39 s.vm) (eT : T.heap = h) (F : Arv Z h a k .long z vs dv) {x : Int64} (hj : ¬ j < 0 ∧ j < z) (i : Nat) (hi : j.toNatClampNeg = i) (hl : i < vs.length) (hg : g.method = m) (hs : g.stack = .long x :: .int j :: .ref a :: rest) (hd : decode c.code g.pc = .ok (.lastore, 1)) :
    ∃ T' h', Stand p l e R s m args below meth c T' (locs ++ [⟨a, j.toNatClampNeg⟩]) cells slots ∧ T'.heap = h' ∧ Wr h h' a j.toNatClampNeg (.long x) ∧ Arv Z h' a k .long z (vs.set i (.long x)) dv ∧ ∀ target, Steps p.tables e below (T'.setTop { g with pc := g.pc + 1, stack := rest }) target → Steps p.tables e below (T.setTop g) target := by
  obtain ⟨cl, A, q1, S, q3, H, G⟩ := F
  obtain ⟨T', h', X', e', W, st⟩ := stJ X hx hZ eT A (inb_of S hj) hg hs hd
  exact ⟨T', h', X', e', W, Arv.set A q1 S q3 H G rfl W i hi hl, st⟩
theorem own_stR (X : Stand p l e R s m args below meth c T locs cells slots) (hx : p.tables.exec = Jvm.exec) (hZ : Z.Warmed39 s.vm) (eT : T.heap = h) {C : String} (F : Arv Z h a k (.object C) z vs dv) {b : Addr} (O : Ovr Z k C) (I : Ins Z h b C true) (hj : ¬ j < 0 ∧ j < z) (i : Nat) (hi : j.toNatClampNeg = i) (hl : i < vs.length) (hg : g.method = m) (hs : g.stack = .ref b :: .int j :: .ref a :: rest) (hd : decode c.code g.pc = .ok (.aastore, 1)) :
    ∃ T' h', Stand p l e R s m args below meth c T' (locs ++ [⟨a, j.toNatClampNeg⟩]) cells slots ∧ T'.heap = h' ∧ Wr h h' a j.toNatClampNeg (.ref b) ∧ Arv Z h' a k (.object C) z (vs.set i (.ref b)) dv ∧ ∀ target, Steps p.tables e below (T'.setTop { g with pc := g.pc + 1, stack := rest }) target → Steps p.tables e below (T.setTop g) target := by
  obtain ⟨cl, A, q1, S, q3, H, G⟩ := F
  obtain ⟨T', h', X', e', W, st⟩ := stR X hx hZ eT A (inb_of S hj) rfl (Sto.ofV A q1 O I) hg hs hd
  exact ⟨T', h', X', e', W, Arv.set A q1 S q3 H G rfl W i hi hl, st⟩
end Own
end Jvm.RoadKit
namespace Jvm.Pilot.@@N@@
open Jvm Jvm.ClassFile Sem Op Lib Jvm.Free Jvm.Stand Jvm.LawKit Jvm.RoadKit Bundle Jvm.Pilot.@@N@@.Jvm.D
theorem own_eq_int {args : Array Value} {first s : State} {o : Option Outcome} {idx : List Nat} {t : Term} {k : Int32} (h : (Cond.eq t (.int k)).value args first o s idx = some true) : t.eval args first o idx s = some (.int k) := by
  cases ht : t.eval args first o idx s with
  | none => simp [Cond.value, ht] at h
  | some x => cases x <;> simp [Cond.value, Term.eval, ht] at h ⊢; exact h
theorem own_eq_ref {args : Array Value} {first s : State} {o : Option Outcome} {idx : List Nat} {t u : Term} {a : Addr} (hu : u.eval args first o idx s = some (.ref a)) (h : (Cond.eq t u).value args first o s idx = some true) : t.eval args first o idx s = some (.ref a) := by
  cases ht : t.eval args first o idx s with
  | none => simp [Cond.value, ht] at h
  | some x => cases x <;> simp [Cond.value, ht, hu] at h ⊢; exact h
theorem own_arr_start {args : Array Value} {Z : State} {t : Term} {a : Addr} {ty : FieldType} {z : Int32} (ev : t.eval args Z none [] Z = some (.ref a)) (ha : (Cond.arrayOf t ty).value args Z none Z [] = some true) (hl : (Cond.eq (.length t) (.int z)).value args Z none Z [] = some true) : ∃ c, Arr Z Z.heap a c ty ∧ c.slots.size < 2 ^ 31 ∧ c.slots.size.toInt32 = z := by
  obtain ⟨c, A⟩ := Arr.start ev ha
  have hq := own_eq_int hl
  have hc : Z.arrayAt? a = some c := A.fin (Vm.Alike.refl _)
  refine ⟨c, A, ?_⟩
  simp only [Term.eval, ev, hc, Option.bind_eq_bind, Option.bind_some] at hq
  split at hq
  · rename_i hlt
    simp only [Option.pure_def, Option.some.injEq, Value.int.injEq] at hq
    exact ⟨hlt, hq⟩
  · cases hq
theorem own_pn0 : plainName "java/util/AbstractCollection" = true := by first | (simp [plainName, overriddenIn]; done) | decide +kernel
theorem own_pn1 : plainName "java/lang/Number" = true := by first | (simp [plainName, overriddenIn]; done) | decide +kernel
theorem own_pn2 : plainName "java/util/AbstractList" = true := by first | (simp [plainName, overriddenIn]; done) | decide +kernel
theorem own_pn3 : plainName "java/util/ArrayList" = true := by first | (simp [plainName, overriddenIn]; done) | decide +kernel
theorem own_pn4 : plainName "java/lang/Long" = true := by first | (simp [plainName, overriddenIn]; done) | decide +kernel
theorem own_pn5 : plainName "jdk/internal/util/Preconditions" = true := by first | (simp [plainName, overriddenIn]; done) | decide +kernel
theorem own_pn6 : plainName "java/util/Objects" = true := by first | (simp [plainName, overriddenIn]; done) | decide +kernel
theorem own_pn7 : plainName "com/example/limpet/limpet/RedisBackend$Acknowledged" = true := by first | (simp [plainName, overriddenIn]; done) | decide +kernel
theorem own_pn8 : plainName "com/example/limpet/limpet/AcknowledgedNotAskedPinLaw" = true := by first | (simp [plainName, overriddenIn]; done) | decide +kernel
theorem own_pd0 : parseMethodDescriptor "()V" = some ⟨[], none⟩ := by decide +kernel
theorem own_pd1 : parseMethodDescriptor "(J)V" = some ⟨[.long], none⟩ := by decide +kernel
theorem own_pd2 : parseMethodDescriptor "(II)I" = some ⟨[.int, .int], some .int⟩ := by decide +kernel
theorem own_pd3 : parseMethodDescriptor "(I)[Ljava/lang/Object;" = some ⟨[.int], some (.array (.object "java/lang/Object"))⟩ := by decide +kernel
theorem own_pd4 : parseMethodDescriptor "()[Ljava/lang/Object;" = some ⟨[], some (.array (.object "java/lang/Object"))⟩ := by decide +kernel
theorem own_pd5 : parseMethodDescriptor "(Ljava/lang/Object;[Ljava/lang/Object;I)V" = some ⟨[.object "java/lang/Object", .array (.object "java/lang/Object"), .int], none⟩ := by decide +kernel
theorem own_pd6 : parseMethodDescriptor "(IILjava/util/function/BiFunction;)I" = some ⟨[.int, .int, .object "java/util/function/BiFunction"], some .int⟩ := by decide +kernel
theorem own_pd7 : parseMethodDescriptor "(I)Ljava/lang/Object;" = some ⟨[.int], some (.object "java/lang/Object")⟩ := by decide +kernel
theorem own_pd8 : parseMethodDescriptor "(Ljava/util/List;IJLjava/lang/RuntimeException;)V" = some ⟨[.object "java/util/List", .int, .long, .object "java/lang/RuntimeException"], none⟩ := by decide +kernel
theorem own_pd9 : parseMethodDescriptor "(Ljava/util/List;)Lcom/example/limpet/limpet/RedisBackend$Acknowledged;" = some ⟨[.object "java/util/List"], some (.object "com/example/limpet/limpet/RedisBackend$Acknowledged")⟩ := by decide +kernel
theorem own_pd10 : parseMethodDescriptor "()Ljava/util/List;" = some ⟨[], some (.object "java/util/List")⟩ := by decide +kernel
theorem own_pd11 : parseMethodDescriptor "()I" = some ⟨[], some .int⟩ := by decide +kernel
theorem own_pd12 : parseMethodDescriptor "()J" = some ⟨[], some .long⟩ := by decide +kernel
theorem own_pd13 : parseMethodDescriptor "()Ljava/lang/RuntimeException;" = some ⟨[], some (.object "java/lang/RuntimeException")⟩ := by decide +kernel
theorem own_pd14 : parseMethodDescriptor "()Z" = some ⟨[], some .boolean⟩ := by decide +kernel
theorem own_pd15 : parseMethodDescriptor "(J)Ljava/lang/Long;" = some ⟨[.long], some (.object "java/lang/Long")⟩ := by decide +kernel
theorem own_pd16 : parseMethodDescriptor "(Ljava/lang/Object;)Z" = some ⟨[.object "java/lang/Object"], some .boolean⟩ := by decide +kernel
theorem own_da_0 : decode jdk_38_method_2_code 0 = .ok (.aload_n 0, 1) := by decide +kernel
theorem own_da_1 : decode jdk_38_method_2_code 1 = .ok (.invokespecial 1, 3) := by decide +kernel
theorem own_da_4 : decode jdk_38_method_2_code 4 = .ok (.aload_n 0, 1) := by decide +kernel
theorem own_da_5 : decode jdk_38_method_2_code 5 = .ok (.getstatic 39, 3) := by decide +kernel
theorem own_da_8 : decode jdk_38_method_2_code 8 = .ok (.putfield 9, 3) := by decide +kernel
theorem own_da_11 : decode jdk_38_method_2_code 11 = .ok (.return_, 1) := by decide +kernel
theorem own_db_0 : decode jdk_39_method_1_code 0 = .ok (.aload_n 0, 1) := by decide +kernel
theorem own_db_1 : decode jdk_39_method_1_code 1 = .ok (.invokespecial 1, 3) := by decide +kernel
theorem own_db_4 : decode jdk_39_method_1_code 4 = .ok (.aload_n 0, 1) := by decide +kernel
theorem own_db_5 : decode jdk_39_method_1_code 5 = .ok (.iconst 0, 1) := by decide +kernel
theorem own_db_6 : decode jdk_39_method_1_code 6 = .ok (.putfield 7, 3) := by decide +kernel
theorem own_db_9 : decode jdk_39_method_1_code 9 = .ok (.return_, 1) := by decide +kernel
theorem own_dc_0 : decode jdk_22_method_1_code 0 = .ok (.aload_n 0, 1) := by decide +kernel
theorem own_dc_1 : decode jdk_22_method_1_code 1 = .ok (.invokespecial 1, 3) := by decide +kernel
theorem own_dc_4 : decode jdk_22_method_1_code 4 = .ok (.return_, 1) := by decide +kernel
theorem own_dd_0 : decode jdk_35_method_26_code 0 = .ok (.aload_n 0, 1) := by decide +kernel
theorem own_dd_1 : decode jdk_35_method_26_code 1 = .ok (.invokespecial 270, 3) := by decide +kernel
theorem own_dd_4 : decode jdk_35_method_26_code 4 = .ok (.aload_n 0, 1) := by decide +kernel
theorem own_dd_5 : decode jdk_35_method_26_code 5 = .ok (.lload_n 1, 1) := by decide +kernel
theorem own_dd_6 : decode jdk_35_method_26_code 6 = .ok (.putfield 273, 3) := by decide +kernel
theorem own_dd_9 : decode jdk_35_method_26_code 9 = .ok (.return_, 1) := by decide +kernel
theorem own_de_0 : decode jdk_18_method_1_code 0 = .ok (.aload_n 0, 1) := by decide +kernel
theorem own_de_1 : decode jdk_18_method_1_code 1 = .ok (.invokespecial 1, 3) := by decide +kernel
theorem own_de_4 : decode jdk_18_method_1_code 4 = .ok (.return_, 1) := by decide +kernel
theorem own_df_0 : decode jdk_35_method_24_code 0 = .ok (.sipush 128, 3) := by decide +kernel
theorem own_df_3 : decode jdk_35_method_24_code 3 = .ok (.istore_n 2, 1) := by decide +kernel
theorem own_df_4 : decode jdk_35_method_24_code 4 = .ok (.lload_n 0, 1) := by decide +kernel
theorem own_df_5 : decode jdk_35_method_24_code 5 = .ok (.ldc2_w 230, 3) := by decide +kernel
theorem own_df_8 : decode jdk_35_method_24_code 8 = .ok (.lcmp, 1) := by decide +kernel
theorem own_df_9 : decode jdk_35_method_24_code 9 = .ok (.ifCond .lt 22, 3) := by decide +kernel
theorem own_df_12 : decode jdk_35_method_24_code 12 = .ok (.lload_n 0, 1) := by decide +kernel
theorem own_df_13 : decode jdk_35_method_24_code 13 = .ok (.ldc2_w 232, 3) := by decide +kernel
theorem own_df_16 : decode jdk_35_method_24_code 16 = .ok (.lcmp, 1) := by decide +kernel
theorem own_df_17 : decode jdk_35_method_24_code 17 = .ok (.ifCond .gt 14, 3) := by decide +kernel
theorem own_df_20 : decode jdk_35_method_24_code 20 = .ok (.getstatic 234, 3) := by decide +kernel
theorem own_df_23 : decode jdk_35_method_24_code 23 = .ok (.lload_n 0, 1) := by decide +kernel
theorem own_df_24 : decode jdk_35_method_24_code 24 = .ok (.l2i, 1) := by decide +kernel
theorem own_df_25 : decode jdk_35_method_24_code 25 = .ok (.sipush 128, 3) := by decide +kernel
theorem own_df_28 : decode jdk_35_method_24_code 28 = .ok (.iadd, 1) := by decide +kernel
theorem own_df_29 : decode jdk_35_method_24_code 29 = .ok (.aaload, 1) := by decide +kernel
theorem own_df_30 : decode jdk_35_method_24_code 30 = .ok (.areturn, 1) := by decide +kernel
theorem own_df_31 : decode jdk_35_method_24_code 31 = .ok (.new 1, 3) := by decide +kernel
theorem own_df_34 : decode jdk_35_method_24_code 34 = .ok (.dup, 1) := by decide +kernel
theorem own_df_35 : decode jdk_35_method_24_code 35 = .ok (.lload_n 0, 1) := by decide +kernel
theorem own_df_36 : decode jdk_35_method_24_code 36 = .ok (.invokespecial 240, 3) := by decide +kernel
theorem own_df_39 : decode jdk_35_method_24_code 39 = .ok (.areturn, 1) := by decide +kernel
theorem own_dg_0 : decode jdk_35_method_31_code 0 = .ok (.aload_n 0, 1) := by decide +kernel
theorem own_dg_1 : decode jdk_35_method_31_code 1 = .ok (.getfield 273, 3) := by decide +kernel
theorem own_dg_4 : decode jdk_35_method_31_code 4 = .ok (.lreturn, 1) := by decide +kernel
theorem own_dh_0 : decode jdk_38_method_25_code 0 = .ok (.aload_n 0, 1) := by decide +kernel
theorem own_dh_1 : decode jdk_38_method_25_code 1 = .ok (.dup, 1) := by decide +kernel
theorem own_dh_2 : decode jdk_38_method_25_code 2 = .ok (.getfield 63, 3) := by decide +kernel
theorem own_dh_5 : decode jdk_38_method_25_code 5 = .ok (.iconst 1, 1) := by decide +kernel
theorem own_dh_6 : decode jdk_38_method_25_code 6 = .ok (.iadd, 1) := by decide +kernel
theorem own_dh_7 : decode jdk_38_method_25_code 7 = .ok (.putfield 63, 3) := by decide +kernel
theorem own_dh_10 : decode jdk_38_method_25_code 10 = .ok (.aload_n 0, 1) := by decide +kernel
theorem own_dh_11 : decode jdk_38_method_25_code 11 = .ok (.aload_n 1, 1) := by decide +kernel
theorem own_dh_12 : decode jdk_38_method_25_code 12 = .ok (.aload_n 0, 1) := by decide +kernel
theorem own_dh_13 : decode jdk_38_method_25_code 13 = .ok (.getfield 9, 3) := by decide +kernel
theorem own_dh_16 : decode jdk_38_method_25_code 16 = .ok (.aload_n 0, 1) := by decide +kernel
theorem own_dh_17 : decode jdk_38_method_25_code 17 = .ok (.getfield 48, 3) := by decide +kernel
theorem own_dh_20 : decode jdk_38_method_25_code 20 = .ok (.invokevirtual 131, 3) := by decide +kernel
theorem own_dh_23 : decode jdk_38_method_25_code 23 = .ok (.iconst 1, 1) := by decide +kernel
theorem own_dh_24 : decode jdk_38_method_25_code 24 = .ok (.ireturn, 1) := by decide +kernel
theorem own_di_0 : decode jdk_38_method_24_code 0 = .ok (.iload_n 3, 1) := by decide +kernel
theorem own_di_1 : decode jdk_38_method_24_code 1 = .ok (.aload_n 2, 1) := by decide +kernel
theorem own_di_2 : decode jdk_38_method_24_code 2 = .ok (.arraylength, 1) := by decide +kernel
theorem own_di_3 : decode jdk_38_method_24_code 3 = .ok (.if_icmp .ne 8, 3) := by decide +kernel
theorem own_di_6 : decode jdk_38_method_24_code 6 = .ok (.aload_n 0, 1) := by decide +kernel
theorem own_di_7 : decode jdk_38_method_24_code 7 = .ok (.invokevirtual 129, 3) := by decide +kernel
theorem own_di_10 : decode jdk_38_method_24_code 10 = .ok (.astore_n 2, 1) := by decide +kernel
theorem own_di_11 : decode jdk_38_method_24_code 11 = .ok (.aload_n 2, 1) := by decide +kernel
theorem own_di_12 : decode jdk_38_method_24_code 12 = .ok (.iload_n 3, 1) := by decide +kernel
theorem own_di_13 : decode jdk_38_method_24_code 13 = .ok (.aload_n 1, 1) := by decide +kernel
theorem own_di_14 : decode jdk_38_method_24_code 14 = .ok (.aastore, 1) := by decide +kernel
theorem own_di_15 : decode jdk_38_method_24_code 15 = .ok (.aload_n 0, 1) := by decide +kernel
theorem own_di_16 : decode jdk_38_method_24_code 16 = .ok (.iload_n 3, 1) := by decide +kernel
theorem own_di_17 : decode jdk_38_method_24_code 17 = .ok (.iconst 1, 1) := by decide +kernel
theorem own_di_18 : decode jdk_38_method_24_code 18 = .ok (.iadd, 1) := by decide +kernel
theorem own_di_19 : decode jdk_38_method_24_code 19 = .ok (.putfield 48, 3) := by decide +kernel
theorem own_di_22 : decode jdk_38_method_24_code 22 = .ok (.return_, 1) := by decide +kernel
theorem own_dj_0 : decode jdk_38_method_7_code 0 = .ok (.aload_n 0, 1) := by decide +kernel
theorem own_dj_1 : decode jdk_38_method_7_code 1 = .ok (.aload_n 0, 1) := by decide +kernel
theorem own_dj_2 : decode jdk_38_method_7_code 2 = .ok (.getfield 48, 3) := by decide +kernel
theorem own_dj_5 : decode jdk_38_method_7_code 5 = .ok (.iconst 1, 1) := by decide +kernel
theorem own_dj_6 : decode jdk_38_method_7_code 6 = .ok (.iadd, 1) := by decide +kernel
theorem own_dj_7 : decode jdk_38_method_7_code 7 = .ok (.invokevirtual 69, 3) := by decide +kernel
theorem own_dj_10 : decode jdk_38_method_7_code 10 = .ok (.areturn, 1) := by decide +kernel
theorem own_dk_0 : decode jdk_38_method_6_code 0 = .ok (.aload_n 0, 1) := by decide +kernel
theorem own_dk_1 : decode jdk_38_method_6_code 1 = .ok (.getfield 9, 3) := by decide +kernel
theorem own_dk_4 : decode jdk_38_method_6_code 4 = .ok (.arraylength, 1) := by decide +kernel
theorem own_dk_5 : decode jdk_38_method_6_code 5 = .ok (.istore_n 2, 1) := by decide +kernel
theorem own_dk_6 : decode jdk_38_method_6_code 6 = .ok (.iload_n 2, 1) := by decide +kernel
theorem own_dk_7 : decode jdk_38_method_6_code 7 = .ok (.ifCond .gt 13, 3) := by decide +kernel
theorem own_dk_10 : decode jdk_38_method_6_code 10 = .ok (.aload_n 0, 1) := by decide +kernel
theorem own_dk_11 : decode jdk_38_method_6_code 11 = .ok (.getfield 9, 3) := by decide +kernel
theorem own_dk_14 : decode jdk_38_method_6_code 14 = .ok (.getstatic 39, 3) := by decide +kernel
theorem own_dk_17 : decode jdk_38_method_6_code 17 = .ok (.if_acmp .eq 28, 3) := by decide +kernel
theorem own_dk_45 : decode jdk_38_method_6_code 45 = .ok (.aload_n 0, 1) := by decide +kernel
theorem own_dk_46 : decode jdk_38_method_6_code 46 = .ok (.bipush 10, 2) := by decide +kernel
theorem own_dk_48 : decode jdk_38_method_6_code 48 = .ok (.iload_n 1, 1) := by decide +kernel
theorem own_dk_49 : decode jdk_38_method_6_code 49 = .ok (.invokestatic 79, 3) := by decide +kernel
theorem own_dk_52 : decode jdk_38_method_6_code 52 = .ok (.anewarray 7, 3) := by decide +kernel
theorem own_dk_55 : decode jdk_38_method_6_code 55 = .ok (.dup_x1, 1) := by decide +kernel
theorem own_dk_56 : decode jdk_38_method_6_code 56 = .ok (.putfield 9, 3) := by decide +kernel
theorem own_dk_59 : decode jdk_38_method_6_code 59 = .ok (.areturn, 1) := by decide +kernel
theorem own_dl_0 : decode jdk_29_method_65_code 0 = .ok (.iload_n 0, 1) := by decide +kernel
theorem own_dl_1 : decode jdk_29_method_65_code 1 = .ok (.iload_n 1, 1) := by decide +kernel
theorem own_dl_2 : decode jdk_29_method_65_code 2 = .ok (.if_icmp .lt 7, 3) := by decide +kernel
theorem own_dl_5 : decode jdk_29_method_65_code 5 = .ok (.iload_n 0, 1) := by decide +kernel
theorem own_dl_6 : decode jdk_29_method_65_code 6 = .ok (.goto 4, 3) := by decide +kernel
theorem own_dl_10 : decode jdk_29_method_65_code 10 = .ok (.ireturn, 1) := by decide +kernel
theorem own_dm_0 : decode jdk_38_method_8_code 0 = .ok (.aload_n 0, 1) := by decide +kernel
theorem own_dm_1 : decode jdk_38_method_8_code 1 = .ok (.getfield 48, 3) := by decide +kernel
theorem own_dm_4 : decode jdk_38_method_8_code 4 = .ok (.ireturn, 1) := by decide +kernel
theorem own_dn_0 : decode jdk_38_method_20_code 0 = .ok (.iload_n 1, 1) := by decide +kernel
theorem own_dn_1 : decode jdk_38_method_20_code 1 = .ok (.aload_n 0, 1) := by decide +kernel
theorem own_dn_2 : decode jdk_38_method_20_code 2 = .ok (.getfield 48, 3) := by decide +kernel
theorem own_dn_5 : decode jdk_38_method_20_code 5 = .ok (.invokestatic 118, 3) := by decide +kernel
theorem own_dn_8 : decode jdk_38_method_20_code 8 = .ok (.pop, 1) := by decide +kernel
theorem own_dn_9 : decode jdk_38_method_20_code 9 = .ok (.aload_n 0, 1) := by decide +kernel
theorem own_dn_10 : decode jdk_38_method_20_code 10 = .ok (.iload_n 1, 1) := by decide +kernel
theorem own_dn_11 : decode jdk_38_method_20_code 11 = .ok (.invokevirtual 123, 3) := by decide +kernel
theorem own_dn_14 : decode jdk_38_method_20_code 14 = .ok (.areturn, 1) := by decide +kernel
theorem own_do_0 : decode jdk_38_method_18_code 0 = .ok (.aload_n 0, 1) := by decide +kernel
theorem own_do_1 : decode jdk_38_method_18_code 1 = .ok (.getfield 9, 3) := by decide +kernel
theorem own_do_4 : decode jdk_38_method_18_code 4 = .ok (.iload_n 1, 1) := by decide +kernel
theorem own_do_5 : decode jdk_38_method_18_code 5 = .ok (.aaload, 1) := by decide +kernel
theorem own_do_6 : decode jdk_38_method_18_code 6 = .ok (.areturn, 1) := by decide +kernel
theorem own_dp_0 : decode jdk_31_method_17_code 0 = .ok (.iload_n 0, 1) := by decide +kernel
theorem own_dp_1 : decode jdk_31_method_17_code 1 = .ok (.iload_n 1, 1) := by decide +kernel
theorem own_dp_2 : decode jdk_31_method_17_code 2 = .ok (.aconst_null, 1) := by decide +kernel
theorem own_dp_3 : decode jdk_31_method_17_code 3 = .ok (.invokestatic 105, 3) := by decide +kernel
theorem own_dp_6 : decode jdk_31_method_17_code 6 = .ok (.ireturn, 1) := by decide +kernel
theorem own_dq_0 : decode jdk_41_method_11_code 0 = .ok (.iload_n 0, 1) := by decide +kernel
theorem own_dq_1 : decode jdk_41_method_11_code 1 = .ok (.ifCond .lt 8, 3) := by decide +kernel
theorem own_dq_4 : decode jdk_41_method_11_code 4 = .ok (.iload_n 0, 1) := by decide +kernel
theorem own_dq_5 : decode jdk_41_method_11_code 5 = .ok (.iload_n 1, 1) := by decide +kernel
theorem own_dq_6 : decode jdk_41_method_11_code 6 = .ok (.if_icmp .lt 10, 3) := by decide +kernel
theorem own_dq_16 : decode jdk_41_method_11_code 16 = .ok (.iload_n 0, 1) := by decide +kernel
theorem own_dq_17 : decode jdk_41_method_11_code 17 = .ok (.ireturn, 1) := by decide +kernel
theorem own_dr_0 : decode prog_15_method_2_code 0 = .ok (.new 8, 3) := by decide +kernel
theorem own_dr_3 : decode prog_15_method_2_code 3 = .ok (.dup, 1) := by decide +kernel
theorem own_dr_4 : decode prog_15_method_2_code 4 = .ok (.aload_n 0, 1) := by decide +kernel
theorem own_dr_5 : decode prog_15_method_2_code 5 = .ok (.iconst 0, 1) := by decide +kernel
theorem own_dr_6 : decode prog_15_method_2_code 6 = .ok (.lconst 0, 1) := by decide +kernel
theorem own_dr_7 : decode prog_15_method_2_code 7 = .ok (.aconst_null, 1) := by decide +kernel
theorem own_dr_8 : decode prog_15_method_2_code 8 = .ok (.invokespecial 25, 3) := by decide +kernel
theorem own_dr_11 : decode prog_15_method_2_code 11 = .ok (.areturn, 1) := by decide +kernel
theorem own_ds_0 : decode prog_15_method_1_code 0 = .ok (.aload_n 0, 1) := by decide +kernel
theorem own_ds_1 : decode prog_15_method_1_code 1 = .ok (.invokespecial 1, 3) := by decide +kernel
theorem own_ds_4 : decode prog_15_method_1_code 4 = .ok (.aload_n 0, 1) := by decide +kernel
theorem own_ds_5 : decode prog_15_method_1_code 5 = .ok (.aload_n 1, 1) := by decide +kernel
theorem own_ds_6 : decode prog_15_method_1_code 6 = .ok (.putfield 7, 3) := by decide +kernel
theorem own_ds_9 : decode prog_15_method_1_code 9 = .ok (.aload_n 0, 1) := by decide +kernel
theorem own_ds_10 : decode prog_15_method_1_code 10 = .ok (.iload_n 2, 1) := by decide +kernel
theorem own_ds_11 : decode prog_15_method_1_code 11 = .ok (.putfield 13, 3) := by decide +kernel
theorem own_ds_14 : decode prog_15_method_1_code 14 = .ok (.aload_n 0, 1) := by decide +kernel
theorem own_ds_15 : decode prog_15_method_1_code 15 = .ok (.lload_n 3, 1) := by decide +kernel
theorem own_ds_16 : decode prog_15_method_1_code 16 = .ok (.putfield 17, 3) := by decide +kernel
theorem own_ds_19 : decode prog_15_method_1_code 19 = .ok (.aload_n 0, 1) := by decide +kernel
theorem own_ds_20 : decode prog_15_method_1_code 20 = .ok (.aload 5, 2) := by decide +kernel
theorem own_ds_22 : decode prog_15_method_1_code 22 = .ok (.putfield 21, 3) := by decide +kernel
theorem own_ds_25 : decode prog_15_method_1_code 25 = .ok (.return_, 1) := by decide +kernel
theorem own_dt_0 : decode prog_15_method_3_code 0 = .ok (.aload_n 0, 1) := by decide +kernel
theorem own_dt_1 : decode prog_15_method_3_code 1 = .ok (.getfield 7, 3) := by decide +kernel
theorem own_dt_4 : decode prog_15_method_3_code 4 = .ok (.areturn, 1) := by decide +kernel
theorem own_du_0 : decode prog_15_method_5_code 0 = .ok (.aload_n 0, 1) := by decide +kernel
theorem own_du_1 : decode prog_15_method_5_code 1 = .ok (.getfield 13, 3) := by decide +kernel
theorem own_du_4 : decode prog_15_method_5_code 4 = .ok (.ireturn, 1) := by decide +kernel
theorem own_dv_0 : decode prog_15_method_6_code 0 = .ok (.aload_n 0, 1) := by decide +kernel
theorem own_dv_1 : decode prog_15_method_6_code 1 = .ok (.getfield 17, 3) := by decide +kernel
theorem own_dv_4 : decode prog_15_method_6_code 4 = .ok (.lreturn, 1) := by decide +kernel
theorem own_dw_0 : decode prog_15_method_7_code 0 = .ok (.aload_n 0, 1) := by decide +kernel
theorem own_dw_1 : decode prog_15_method_7_code 1 = .ok (.getfield 21, 3) := by decide +kernel
theorem own_dw_4 : decode prog_15_method_7_code 4 = .ok (.areturn, 1) := by decide +kernel
theorem own_dx_0 : decode prog_15_method_4_code 0 = .ok (.aload_n 0, 1) := by decide +kernel
theorem own_dx_1 : decode prog_15_method_4_code 1 = .ok (.getfield 13, 3) := by decide +kernel
theorem own_dx_4 : decode prog_15_method_4_code 4 = .ok (.ifCond .eq 23, 3) := by decide +kernel
theorem own_dx_27 : decode prog_15_method_4_code 27 = .ok (.iconst 1, 1) := by decide +kernel
theorem own_dx_28 : decode prog_15_method_4_code 28 = .ok (.goto 4, 3) := by decide +kernel
theorem own_dx_32 : decode prog_15_method_4_code 32 = .ok (.ireturn, 1) := by decide +kernel
theorem own_ef_abci (m : MethodId) (x0 : Addr) : entryFrame m #[(.ref x0)] 1 = mkF m 0 #[.val (.ref x0)] [] := by first | (simp [entryFrame, mkF, argsToLocals, Value.category]; done) | rfl
def own_Q_abci (Z : State) (a : Addr) (h0 : Heap) (n0 : Nat) (v : Option Value) (h : Heap) (L : List Loc) : Prop := v = none ∧ Fr n0 L ∧ h = h0
set_option maxRecDepth 65536 in
set_option maxHeartbeats 40000000 in
theorem own_rm_abci (l : Launch) (Z : State) (a0 : Array Value) (hw : ∀ d ∈ tables_1, d.before a0 Z = true) (ws : List Jvm.Cond) (a : Addr) (h0 : Heap) (n0 : Nat) (Z0 : n0 ≤ h0.size)  :
    MetFree l (⟨"java/util/AbstractCollection", "<init>", "()V"⟩ : MethodName) (head1 (Jvm.Cond.code (⟨"java/util/AbstractCollection", "<init>", "()V"⟩ : MethodName) jdk_22_method_1_code 1 none :: ws) ({ frames := 1, cells := 0, slots := 0, locals := 12 } : Room)) (fun zz U => zz = #[(.ref a)] ∧ Z.Warmed39 U.vm ∧ U.heap = h0) (fun _ _ _ _ _ => True) (fun _ U zo U' => ∃ v L, zo = .returned v ∧ own_Q_abci Z a h0 n0 v U'.heap L ∧ FrameEnd U zo U' L ({ frames := 1, cells := 0, slots := 0, locals := 12 } : Room).cells ({ frames := 1, cells := 0, slots := 0, locals := 12 } : Room).slots) := by
  refine MetFree.of_bodySF (plainFor_of_name own_pn0) hisR ?_
  intro p e s m args below meth c s₁ Bd hml0 hP hK
  obtain ⟨rfl, hZ, hh⟩ := hP
  have hx := Bd.exec
  have hby := Bd.bytes
  have hml : c.maxLocals = 1 := hml0
  have hown : s.vm.findClass "java/util/AbstractCollection" = some m.cls := findClass_of_methodNamed Bd.named
  have hnm := (name_of_methodNamed Bd.named Bd.method).1
  have X0 : Stand p l e ({ frames := 1, cells := 0, slots := 0, locals := 12 } : Room) s m #[(.ref a)] below meth c s₁ [] 0 0 := Stand.of_body Bd
  have e0 : s₁.heap = h0 := by rw [← hh, Bd.state]; rfl
  have N0 := Fr.nil n0
  show own_Go p e below (own_K s (own_Q_abci Z a h0 n0) ({ frames := 1, cells := 0, slots := 0, locals := 12 } : Room).cells ({ frames := 1, cells := 0, slots := 0, locals := 12 } : Room).slots) s₁ (entryFrame m #[(.ref a)] 1)
  rw [own_ef_abci m a]
  show own_Go p e below _ s₁ (mkF m 0 #[rv a] [])
  refine own_st (fun _ k => XS.aloadN X0.here hx rfl (hb hby own_dc_0) rfl rfl k) ?_
  show own_Go p e below _ s₁ (mkF m 1 #[rv a] [(.ref a)])
  obtain ⟨T1, X1, e1, st1⟩ := initO X0 hx hZ hown (hw _ (List.mem_of_getElem? (i := 18) rfl)) (hw _ (List.mem_of_getElem? (i := 19) rfl)) (hw _ (List.mem_of_getElem? (i := 20) rfl)) e0 (g := (mkF m 1 #[rv a] [(.ref a)])) rfl (by rw [hml]; rfl) rfl (hb hby own_dc_1) (by decide) (W := 0) (by show 2 * 0 + _ ≤ _; exact Nat.le_of_eq rfl) (by decide)
  refine own_st st1 ?_
  show own_Go p e below _ T1 (mkF m 4 #[rv a] [])
  refine own_ret X1 hx Bd.notSynchronized Bd.returns (hb hby own_dc_4) (by decide) (by decide) ?_
  rw [e1]
  exact ⟨rfl, N0, rfl⟩
theorem own_ef_nui (m : MethodId) (x0 : Addr) : entryFrame m #[(.ref x0)] 1 = mkF m 0 #[.val (.ref x0)] [] := by first | (simp [entryFrame, mkF, argsToLocals, Value.category]; done) | rfl
def own_Q_nui (Z : State) (a : Addr) (h0 : Heap) (n0 : Nat) (v : Option Value) (h : Heap) (L : List Loc) : Prop := v = none ∧ Fr n0 L ∧ h = h0
set_option maxRecDepth 65536 in
set_option maxHeartbeats 40000000 in
theorem own_rm_nui (l : Launch) (Z : State) (a0 : Array Value) (hw : ∀ d ∈ tables_1, d.before a0 Z = true) (ws : List Jvm.Cond) (a : Addr) (h0 : Heap) (n0 : Nat) (Z0 : n0 ≤ h0.size)  :
    MetFree l (⟨"java/lang/Number", "<init>", "()V"⟩ : MethodName) (head1 (Jvm.Cond.code (⟨"java/lang/Number", "<init>", "()V"⟩ : MethodName) jdk_18_method_1_code 1 none :: ws) ({ frames := 1, cells := 0, slots := 0, locals := 12 } : Room)) (fun zz U => zz = #[(.ref a)] ∧ Z.Warmed39 U.vm ∧ U.heap = h0) (fun _ _ _ _ _ => True) (fun _ U zo U' => ∃ v L, zo = .returned v ∧ own_Q_nui Z a h0 n0 v U'.heap L ∧ FrameEnd U zo U' L ({ frames := 1, cells := 0, slots := 0, locals := 12 } : Room).cells ({ frames := 1, cells := 0, slots := 0, locals := 12 } : Room).slots) := by
  refine MetFree.of_bodySF (plainFor_of_name own_pn1) hisR ?_
  intro p e s m args below meth c s₁ Bd hml0 hP hK
  obtain ⟨rfl, hZ, hh⟩ := hP
  have hx := Bd.exec
  have hby := Bd.bytes
  have hml : c.maxLocals = 1 := hml0
  have hown : s.vm.findClass "java/lang/Number" = some m.cls := findClass_of_methodNamed Bd.named
  have hnm := (name_of_methodNamed Bd.named Bd.method).1
  have X0 : Stand p l e ({ frames := 1, cells := 0, slots := 0, locals := 12 } : Room) s m #[(.ref a)] below meth c s₁ [] 0 0 := Stand.of_body Bd
  have e0 : s₁.heap = h0 := by rw [← hh, Bd.state]; rfl
  have N0 := Fr.nil n0
  show own_Go p e below (own_K s (own_Q_nui Z a h0 n0) ({ frames := 1, cells := 0, slots := 0, locals := 12 } : Room).cells ({ frames := 1, cells := 0, slots := 0, locals := 12 } : Room).slots) s₁ (entryFrame m #[(.ref a)] 1)
  rw [own_ef_nui m a]
  show own_Go p e below _ s₁ (mkF m 0 #[rv a] [])
  refine own_st (fun _ k => XS.aloadN X0.here hx rfl (hb hby own_de_0) rfl rfl k) ?_
  show own_Go p e below _ s₁ (mkF m 1 #[rv a] [(.ref a)])
  obtain ⟨T1, X1, e1, st1⟩ := initO X0 hx hZ hown (hw _ (List.mem_of_getElem? (i := 129) rfl)) (hw _ (List.mem_of_getElem? (i := 19) rfl)) (hw _ (List.mem_of_getElem? (i := 20) rfl)) e0 (g := (mkF m 1 #[rv a] [(.ref a)])) rfl (by rw [hml]; rfl) rfl (hb hby own_de_1) (by decide) (W := 0) (by show 2 * 0 + _ ≤ _; exact Nat.le_of_eq rfl) (by decide)
  refine own_st st1 ?_
  show own_Go p e below _ T1 (mkF m 4 #[rv a] [])
  refine own_ret X1 hx Bd.notSynchronized Bd.returns (hb hby own_de_4) (by decide) (by decide) ?_
  rw [e1]
  exact ⟨rfl, N0, rfl⟩
theorem own_ef_abli (m : MethodId) (x0 : Addr) : entryFrame m #[(.ref x0)] 1 = mkF m 0 #[.val (.ref x0)] [] := by first | (simp [entryFrame, mkF, argsToLocals, Value.category]; done) | rfl
def own_Q_abli (Z : State) (a : Addr) (h0 : Heap) (n0 : Nat) (v : Option Value) (h : Heap) (L : List Loc) : Prop := v = none ∧ Fr n0 L ∧ Keep h0 h [a] ∧ Fld Z h a "java/util/AbstractList" "modCount" "I" (.int (0 : Int32)) ∧ Fld Z h a "java/util/ArrayList" "elementData" "[Ljava/lang/Object;" .null ∧ Fld Z h a "java/util/ArrayList" "size" "I" (.int (0 : Int32))
set_option maxRecDepth 65536 in
set_option maxHeartbeats 40000000 in
theorem own_rm_abli (l : Launch) (Z : State) (a0 : Array Value) (hw : ∀ d ∈ tables_1, d.before a0 Z = true) (ws : List Jvm.Cond) (a : Addr) (h0 : Heap) (n0 : Nat) (Z0 : n0 ≤ h0.size) (E_a : Exa Z h0 a "java/util/ArrayList") (F_m : Fld Z h0 a "java/util/AbstractList" "modCount" "I" (.int (0 : Int32))) (F_e : Fld Z h0 a "java/util/ArrayList" "elementData" "[Ljava/lang/Object;" .null) (F_s : Fld Z h0 a "java/util/ArrayList" "size" "I" (.int (0 : Int32))) (g_a : n0 ≤ a) :
    MetFree l (⟨"java/util/AbstractList", "<init>", "()V"⟩ : MethodName) (head1 (Jvm.Cond.code (⟨"java/util/AbstractList", "<init>", "()V"⟩ : MethodName) jdk_39_method_1_code 1 none :: ws) ({ frames := 2, cells := 0, slots := 0, locals := 24 } : Room)) (fun zz U => zz = #[(.ref a)] ∧ Z.Warmed39 U.vm ∧ U.heap = h0) (fun _ _ _ _ _ => True) (fun _ U zo U' => ∃ v L, zo = .returned v ∧ own_Q_abli Z a h0 n0 v U'.heap L ∧ FrameEnd U zo U' L ({ frames := 2, cells := 0, slots := 0, locals := 24 } : Room).cells ({ frames := 2, cells := 0, slots := 0, locals := 24 } : Room).slots) := by
  refine MetFree.of_bodySF (plainFor_of_name own_pn2) hisR ?_
  intro p e s m args below meth c s₁ Bd hml0 hP hK
  obtain ⟨rfl, hZ, hh⟩ := hP
  have hx := Bd.exec
  have hby := Bd.bytes
  have hml : c.maxLocals = 1 := hml0
  have hown : s.vm.findClass "java/util/AbstractList" = some m.cls := findClass_of_methodNamed Bd.named
  have hnm := (name_of_methodNamed Bd.named Bd.method).1
  have X0 : Stand p l e ({ frames := 2, cells := 0, slots := 0, locals := 24 } : Room) s m #[(.ref a)] below meth c s₁ [] 0 0 := Stand.of_body Bd
  have e0 : s₁.heap = h0 := by rw [← hh, Bd.state]; rfl
  have N0 := Fr.nil n0
  show own_Go p e below (own_K s (own_Q_abli Z a h0 n0) ({ frames := 2, cells := 0, slots := 0, locals := 24 } : Room).cells ({ frames := 2, cells := 0, slots := 0, locals := 24 } : Room).slots) s₁ (entryFrame m #[(.ref a)] 1)
  rw [own_ef_abli m a]
  show own_Go p e below _ s₁ (mkF m 0 #[rv a] [])
  have K0 : Keep h0 h0 [a] := Keep.refl _ _
  refine own_st (fun _ k => XS.aloadN X0.here hx rfl (hb hby own_db_0) rfl rfl k) ?_
  show own_Go p e below _ s₁ (mkF m 1 #[rv a] [(.ref a)])
  obtain ⟨_, _, ⟨T1, L1, k1, n1⟩, -, X1, ⟨Lc1, hQ1, l1, y1, z1⟩, st1⟩ := X0.specialBack hx (y := (⟨"java/util/AbstractCollection", "<init>", "()V"⟩ : MethodName)) rfl hown (mvT hZ (hw _ (List.mem_of_getElem? (i := 12) rfl))) (mvT hZ (hw _ (List.mem_of_getElem? (i := 13) rfl))) (mvT hZ (hw _ (List.mem_of_getElem? (i := 17) rfl))) (by decide) (backOf (W := 0) (own_rm_abci l Z a0 hw [] a h0 n0 Z0) hZ (hw _ (List.mem_of_getElem? (i := 17) rfl)) (hw _ (List.mem_of_getElem? (i := 16) rfl)) (by decide) (by decide)) (g := (mkF m 1 #[rv a] [(.ref a)])) rfl (by rw [hml]; rfl) (Steps.refl _) (a := a) (argsL := []) (rest := []) (lenOf own_pd0 rfl) rfl (by show 2 * 0 + _ ≤ _; exact Nat.le_of_eq rfl) (hb hby own_db_1) (fun _ _ => ⟨rfl, e0, (by decide : 0 + 0 ≤ _), (by decide : 0 + 0 ≤ _)⟩)
  dsimp only [Pt.U, Pt.locs, Pt.cells, Pt.slots] at X1 l1 y1 z1 st1 hQ1
  subst l1 y1 z1
  obtain ⟨rfl, N1, eh1⟩ := hQ1
  have M1 := Fr.app N0 N1
  refine own_tr st1 ?_
  show own_Go p e below _ T1 (mkF m 4 #[rv a] [])
  refine own_st (fun _ k => XS.aloadN X1.here hx rfl (hb hby own_db_4) rfl rfl k) ?_
  show own_Go p e below _ T1 (mkF m 5 #[rv a] [(.ref a)])
  refine own_st (fun _ k => XT.iconstV X1.here hx rfl (0 : Int32) (hb hby own_db_5) (by decide) k) ?_
  show own_Go p e below _ T1 (mkF m 6 #[rv a] [(.int 0), (.ref a)])
  obtain ⟨T2, h2, X2, e2, W2, st2⟩ := putF X1 hx hZ hown (host := "") (Or.inl (hw _ (List.mem_of_getElem? (i := 21) rfl))) Via.refl eh1 F_m E_a (Or.inl (hw _ (List.mem_of_getElem? (i := 22) rfl))) (hw _ (List.mem_of_getElem? (i := 1) rfl)) (ty := .int) (by decide) rfl rfl (g := (mkF m 6 #[rv a] [(.int 0), (.ref a)])) rfl rfl (hb hby own_db_6)
  have E2_a := E_a.wr W2
  have F2_modCount_a := F_m.same W2
  have F2_elementData_a := F_e.other W2 (Or.inr (slot_ne (Or.inl (hw _ (List.mem_of_getElem? (i := 25) rfl))) (Or.inl (hw _ (List.mem_of_getElem? (i := 22) rfl))) (by decide) (t := .array (.object "java/lang/Object")) (t' := .int) (by decide) (by decide)))
  have F2_size_a := F_s.other W2 (Or.inr (slot_ne (Or.inl (hw _ (List.mem_of_getElem? (i := 59) rfl))) (Or.inl (hw _ (List.mem_of_getElem? (i := 22) rfl))) (by decide) (t := .int) (t' := .int) (by decide) (by decide)))
  have Z2 : n0 ≤ h2.size := by rw [W2.size]; exact Z0
  have K2 : Keep h0 h2 [a] := K0.wr W2 (Or.inl (List.mem_of_getElem? (i := 0) rfl))
  have N2 := Fr.snoc X2 M1 g_a
  refine own_st st2 ?_
  show own_Go p e below _ T2 (mkF m 9 #[rv a] [])
  refine own_ret X2 hx Bd.notSynchronized Bd.returns (hb hby own_db_9) (by decide) (by decide) ?_
  rw [e2]
  exact ⟨rfl, N2, K2, F2_modCount_a, F2_elementData_a, F2_size_a⟩
theorem own_ef_ali (m : MethodId) (x0 : Addr) : entryFrame m #[(.ref x0)] 1 = mkF m 0 #[.val (.ref x0)] [] := by first | (simp [entryFrame, mkF, argsToLocals, Value.category]; done) | rfl
def own_Q_ali (Z : State) (a : Addr) (w_D : Addr) (h0 : Heap) (n0 : Nat) (v : Option Value) (h : Heap) (L : List Loc) : Prop := v = none ∧ Fr n0 L ∧ Keep h0 h [a] ∧ Fld Z h a "java/util/AbstractList" "modCount" "I" (.int (0 : Int32)) ∧ Fld Z h a "java/util/ArrayList" "elementData" "[Ljava/lang/Object;" (.ref w_D) ∧ Fld Z h a "java/util/ArrayList" "size" "I" (.int (0 : Int32))
set_option maxRecDepth 65536 in
set_option maxHeartbeats 40000000 in
theorem own_rm_ali (l : Launch) (Z : State) (a0 : Array Value) (hw : ∀ d ∈ tables_1, d.before a0 Z = true) (ws : List Jvm.Cond) (a : Addr) (w_D : Addr) (h0 : Heap) (n0 : Nat) (Z0 : n0 ≤ h0.size) (E_a : Exa Z h0 a "java/util/ArrayList") (F_m : Fld Z h0 a "java/util/AbstractList" "modCount" "I" (.int (0 : Int32))) (F_e : Fld Z h0 a "java/util/ArrayList" "elementData" "[Ljava/lang/Object;" .null) (F_s : Fld Z h0 a "java/util/ArrayList" "size" "I" (.int (0 : Int32))) (g_a : n0 ≤ a) (O0 : Old Z n0 h0) (S_D : Sta Z Z.heap "java/util/ArrayList" "DEFAULTCAPACITY_EMPTY_ELEMENTDATA" "[Ljava/lang/Object;" (.ref w_D)) :
    MetFree l (⟨"java/util/ArrayList", "<init>", "()V"⟩ : MethodName) (head1 (Jvm.Cond.code (⟨"java/util/ArrayList", "<init>", "()V"⟩ : MethodName) jdk_38_method_2_code 1 none :: ws) ({ frames := 3, cells := 0, slots := 0, locals := 36 } : Room)) (fun zz U => zz = #[(.ref a)] ∧ Z.Warmed39 U.vm ∧ U.heap = h0) (fun _ _ _ _ _ => True) (fun _ U zo U' => ∃ v L, zo = .returned v ∧ own_Q_ali Z a w_D h0 n0 v U'.heap L ∧ FrameEnd U zo U' L ({ frames := 3, cells := 0, slots := 0, locals := 36 } : Room).cells ({ frames := 3, cells := 0, slots := 0, locals := 36 } : Room).slots) := by
  refine MetFree.of_bodySF (plainFor_of_name own_pn3) hisR ?_
  intro p e s m args below meth c s₁ Bd hml0 hP hK
  obtain ⟨rfl, hZ, hh⟩ := hP
  have hx := Bd.exec
  have hby := Bd.bytes
  have hml : c.maxLocals = 1 := hml0
  have hown : s.vm.findClass "java/util/ArrayList" = some m.cls := findClass_of_methodNamed Bd.named
  have hnm := (name_of_methodNamed Bd.named Bd.method).1
  have X0 : Stand p l e ({ frames := 3, cells := 0, slots := 0, locals := 36 } : Room) s m #[(.ref a)] below meth c s₁ [] 0 0 := Stand.of_body Bd
  have e0 : s₁.heap = h0 := by rw [← hh, Bd.state]; rfl
  have N0 := Fr.nil n0
  show own_Go p e below (own_K s (own_Q_ali Z a w_D h0 n0) ({ frames := 3, cells := 0, slots := 0, locals := 36 } : Room).cells ({ frames := 3, cells := 0, slots := 0, locals := 36 } : Room).slots) s₁ (entryFrame m #[(.ref a)] 1)
  rw [own_ef_ali m a]
  show own_Go p e below _ s₁ (mkF m 0 #[rv a] [])
  have K0 : Keep h0 h0 [a] := Keep.refl _ _
  refine own_st (fun _ k => XS.aloadN X0.here hx rfl (hb hby own_da_0) rfl rfl k) ?_
  show own_Go p e below _ s₁ (mkF m 1 #[rv a] [(.ref a)])
  obtain ⟨_, _, ⟨T1, L1, k1, n1⟩, -, X1, ⟨Lc1, hQ1, l1, y1, z1⟩, st1⟩ := X0.specialBack hx (y := (⟨"java/util/AbstractList", "<init>", "()V"⟩ : MethodName)) rfl hown (mvT hZ (hw _ (List.mem_of_getElem? (i := 6) rfl))) (mvT hZ (hw _ (List.mem_of_getElem? (i := 7) rfl))) (mvT hZ (hw _ (List.mem_of_getElem? (i := 11) rfl))) (by decide) (backOf (W := 0) (own_rm_abli l Z a0 hw [] a h0 n0 Z0 E_a F_m F_e F_s g_a) hZ (hw _ (List.mem_of_getElem? (i := 11) rfl)) (hw _ (List.mem_of_getElem? (i := 10) rfl)) (by decide) (by decide)) (g := (mkF m 1 #[rv a] [(.ref a)])) rfl (by rw [hml]; rfl) (Steps.refl _) (a := a) (argsL := []) (rest := []) (lenOf own_pd0 rfl) rfl (by show 2 * 0 + _ ≤ _; exact Nat.le_of_eq rfl) (hb hby own_da_1) (fun _ _ => ⟨rfl, e0, (by decide : 0 + 0 ≤ _), (by decide : 0 + 0 ≤ _)⟩)
  dsimp only [Pt.U, Pt.locs, Pt.cells, Pt.slots] at X1 l1 y1 z1 st1 hQ1
  subst l1 y1 z1
  obtain ⟨rfl, N1, KC1, Fm1, Fe1, Fs1⟩ := hQ1
  have M1 := Fr.app N0 N1
  refine own_tr st1 ?_
  show own_Go p e below _ T1 (mkF m 4 #[rv a] [])
  have O1 := O0.keep KC1 (allS g_a all0)
  have E1_a := E_a.keep KC1
  have Z1 : n0 ≤ T1.heap.size := Nat.le_trans Z0 KC1.1
  have KK1 : Keep h0 T1.heap [a] := K0.trans KC1 (allS (Or.inl (List.mem_of_getElem? (i := 0) rfl)) all0)
  refine own_st (fun _ k => XS.aloadN X1.here hx rfl (hb hby own_da_4) rfl rfl k) ?_
  show own_Go p e below _ T1 (mkF m 5 #[rv a] [(.ref a)])
  obtain ⟨T2, X2, e2, st2⟩ := getS2 X1 hx hZ hown (host := "") (Or.inl (hw _ (List.mem_of_getElem? (i := 23) rfl))) Via.refl rfl (S_D.ext O1.2) (g := (mkF m 5 #[rv a] [(.ref a)])) rfl (hb hby own_da_5)
  refine own_st st2 ?_
  show own_Go p e below _ T2 (mkF m 8 #[rv a] [(.ref w_D), (.ref a)])
  obtain ⟨T3, h3, X3, e3, W3, st3⟩ := putF X2 hx hZ hown (host := "") (Or.inl (hw _ (List.mem_of_getElem? (i := 24) rfl))) Via.refl e2 Fe1 E1_a (Or.inl (hw _ (List.mem_of_getElem? (i := 25) rfl))) (hw _ (List.mem_of_getElem? (i := 1) rfl)) (ty := .array (.object "java/lang/Object")) (by decide) rfl rfl (g := (mkF m 8 #[rv a] [(.ref w_D), (.ref a)])) rfl rfl (hb hby own_da_8)
  have O3 := O1.wr W3 g_a
  have E3_a := E1_a.wr W3
  have F3_modCount_a := Fm1.other W3 (Or.inr (slot_ne (Or.inl (hw _ (List.mem_of_getElem? (i := 22) rfl))) (Or.inl (hw _ (List.mem_of_getElem? (i := 25) rfl))) (by decide) (t := .int) (t' := .array (.object "java/lang/Object")) (by decide) (by decide)))
  have F3_elementData_a := Fe1.same W3
  have F3_size_a := Fs1.other W3 (Or.inr (slot_ne (Or.inl (hw _ (List.mem_of_getElem? (i := 59) rfl))) (Or.inl (hw _ (List.mem_of_getElem? (i := 25) rfl))) (by decide) (t := .int) (t' := .array (.object "java/lang/Object")) (by decide) (by decide)))
  have Z3 : n0 ≤ h3.size := by rw [W3.size]; exact Z1
  have K3 : Keep h0 h3 [a] := KK1.wr W3 (Or.inl (List.mem_of_getElem? (i := 0) rfl))
  have N3 := Fr.snoc X3 M1 g_a
  refine own_st st3 ?_
  show own_Go p e below _ T3 (mkF m 11 #[rv a] [])
  refine own_ret X3 hx Bd.notSynchronized Bd.returns (hb hby own_da_11) (by decide) (by decide) ?_
  rw [e3]
  exact ⟨rfl, N3, K3, F3_modCount_a, F3_elementData_a, F3_size_a⟩
theorem own_ef_loi (m : MethodId) (x0 : Addr) (x1 : Int64) : entryFrame m #[(.ref x0), (.long x1)] 3 = mkF m 0 #[.val (.ref x0), .val (.long x1), .second] [] := by first | (simp [entryFrame, mkF, argsToLocals, Value.category]; done) | rfl
def own_Q_loi (Z : State) (a : Addr) (x : Int64) (h0 : Heap) (n0 : Nat) (v : Option Value) (h : Heap) (L : List Loc) : Prop := v = none ∧ Fr n0 L ∧ Keep h0 h [a] ∧ Fld Z h a "java/lang/Long" "value" "J" (.long x)
set_option maxRecDepth 65536 in
set_option maxHeartbeats 40000000 in
theorem own_rm_loi (l : Launch) (Z : State) (a0 : Array Value) (hw : ∀ d ∈ tables_1, d.before a0 Z = true) (ws : List Jvm.Cond) (a : Addr) (x : Int64) (h0 : Heap) (n0 : Nat) (Z0 : n0 ≤ h0.size) (E_a : Exa Z h0 a "java/lang/Long") (F_v : Fld Z h0 a "java/lang/Long" "value" "J" (.long (0 : Int64))) (g_a : n0 ≤ a) :
    MetFree l (⟨"java/lang/Long", "<init>", "(J)V"⟩ : MethodName) (head1 (Jvm.Cond.code (⟨"java/lang/Long", "<init>", "(J)V"⟩ : MethodName) jdk_35_method_26_code 3 none :: ws) ({ frames := 2, cells := 0, slots := 0, locals := 24 } : Room)) (fun zz U => zz = #[(.ref a), (.long x)] ∧ Z.Warmed39 U.vm ∧ U.heap = h0) (fun _ _ _ _ _ => True) (fun _ U zo U' => ∃ v L, zo = .returned v ∧ own_Q_loi Z a x h0 n0 v U'.heap L ∧ FrameEnd U zo U' L ({ frames := 2, cells := 0, slots := 0, locals := 24 } : Room).cells ({ frames := 2, cells := 0, slots := 0, locals := 24 } : Room).slots) := by
  refine MetFree.of_bodySF (plainFor_of_name own_pn4) hisR ?_
  intro p e s m args below meth c s₁ Bd hml0 hP hK
  obtain ⟨rfl, hZ, hh⟩ := hP
  have hx := Bd.exec
  have hby := Bd.bytes
  have hml : c.maxLocals = 3 := hml0
  have hown : s.vm.findClass "java/lang/Long" = some m.cls := findClass_of_methodNamed Bd.named
  have hnm := (name_of_methodNamed Bd.named Bd.method).1
  have X0 : Stand p l e ({ frames := 2, cells := 0, slots := 0, locals := 24 } : Room) s m #[(.ref a), (.long x)] below meth c s₁ [] 0 0 := Stand.of_body Bd
  have e0 : s₁.heap = h0 := by rw [← hh, Bd.state]; rfl
  have N0 := Fr.nil n0
  show own_Go p e below (own_K s (own_Q_loi Z a x h0 n0) ({ frames := 2, cells := 0, slots := 0, locals := 24 } : Room).cells ({ frames := 2, cells := 0, slots := 0, locals := 24 } : Room).slots) s₁ (entryFrame m #[(.ref a), (.long x)] 3)
  rw [own_ef_loi m a x]
  show own_Go p e below _ s₁ (mkF m 0 #[rv a, .val (.long x), .second] [])
  have K0 : Keep h0 h0 [a] := Keep.refl _ _
  refine own_st (fun _ k => XS.aloadN X0.here hx rfl (hb hby own_dd_0) rfl rfl k) ?_
  show own_Go p e below _ s₁ (mkF m 1 #[rv a, .val (.long x), .second] [(.ref a)])
  obtain ⟨_, _, ⟨T1, L1, k1, n1⟩, -, X1, ⟨Lc1, hQ1, l1, y1, z1⟩, st1⟩ := X0.specialBack hx (y := (⟨"java/lang/Number", "<init>", "()V"⟩ : MethodName)) rfl hown (mvT hZ (hw _ (List.mem_of_getElem? (i := 123) rfl))) (mvT hZ (hw _ (List.mem_of_getElem? (i := 124) rfl))) (mvT hZ (hw _ (List.mem_of_getElem? (i := 128) rfl))) (by decide) (backOf (W := 0) (own_rm_nui l Z a0 hw [] a h0 n0 Z0) hZ (hw _ (List.mem_of_getElem? (i := 128) rfl)) (hw _ (List.mem_of_getElem? (i := 127) rfl)) (by decide) (by decide)) (g := (mkF m 1 #[rv a, .val (.long x), .second] [(.ref a)])) rfl (by rw [hml]; rfl) (Steps.refl _) (a := a) (argsL := []) (rest := []) (lenOf own_pd0 rfl) rfl (by show 2 * 0 + _ ≤ _; exact Nat.le_of_eq rfl) (hb hby own_dd_1) (fun _ _ => ⟨rfl, e0, (by decide : 0 + 0 ≤ _), (by decide : 0 + 0 ≤ _)⟩)
  dsimp only [Pt.U, Pt.locs, Pt.cells, Pt.slots] at X1 l1 y1 z1 st1 hQ1
  subst l1 y1 z1
  obtain ⟨rfl, N1, eh1⟩ := hQ1
  have M1 := Fr.app N0 N1
  refine own_tr st1 ?_
  show own_Go p e below _ T1 (mkF m 4 #[rv a, .val (.long x), .second] [])
  refine own_st (fun _ k => XS.aloadN X1.here hx rfl (hb hby own_dd_4) rfl rfl k) ?_
  show own_Go p e below _ T1 (mkF m 5 #[rv a, .val (.long x), .second] [(.ref a)])
  refine own_st (fun _ k => XT.lloadN X1.here hx rfl (hb hby own_dd_5) rfl k) ?_
  show own_Go p e below _ T1 (mkF m 6 #[rv a, .val (.long x), .second] [(.long x), (.ref a)])
  obtain ⟨T2, h2, X2, e2, W2, st2⟩ := putF X1 hx hZ hown (host := "") (Or.inl (hw _ (List.mem_of_getElem? (i := 130) rfl))) Via.refl eh1 F_v E_a (Or.inr ⟨(hw _ (List.mem_of_getElem? (i := 131) rfl)), rfl, hnm⟩) (hw _ (List.mem_of_getElem? (i := 118) rfl)) (ty := .long) (by decide) rfl rfl (g := (mkF m 6 #[rv a, .val (.long x), .second] [(.long x), (.ref a)])) rfl rfl (hb hby own_dd_6)
  have E2_a := E_a.wr W2
  have F2_value_a := F_v.same W2
  have Z2 : n0 ≤ h2.size := by rw [W2.size]; exact Z0
  have K2 : Keep h0 h2 [a] := K0.wr W2 (Or.inl (List.mem_of_getElem? (i := 0) rfl))
  have N2 := Fr.snoc X2 M1 g_a
  refine own_st st2 ?_
  show own_Go p e below _ T2 (mkF m 9 #[rv a, .val (.long x), .second] [])
  refine own_ret X2 hx Bd.notSynchronized Bd.returns (hb hby own_dd_9) (by decide) (by decide) ?_
  rw [e2]
  exact ⟨rfl, N2, K2, F2_value_a⟩
theorem own_cacheI {x : Int64} (h1 : ¬ x < (-128 : Int64)) (h2 : ¬ (127 : Int64) < x) : ∃ i : Nat, i < 256 ∧ x.toInt32 + (128 : Int32) = Int32.ofNat i ∧ x = (Int32.ofNat i - (128 : Int32)).toInt64 ∧ ¬ (Int32.ofNat i < 0) ∧ (Int32.ofNat i).toNatClampNeg = i := by
  rw [Int64.lt_iff_toInt_lt] at h1 h2
  have k1 : (-128 : Int64).toInt = -128 := by decide
  have k2 : (127 : Int64).toInt = 127 := by decide
  rw [k1] at h1; rw [k2] at h2
  have e1 : x.toInt32.toInt = x.toInt := Jvm.Kit.i32_of_i64 (by omega) (by omega)
  have e0 : (128 : Int32).toInt = 128 := by decide
  have e2 : (x.toInt32 + (128 : Int32)).toInt = x.toInt + 128 := by rw [Jvm.Kit.i32_add (by omega) (by omega), e1, e0]
  have e3 : (Int32.ofNat (x.toInt + 128).toNat).toInt = x.toInt + 128 := by rw [Int32.toInt_ofNat_of_lt (by omega)]; omega
  have e4 : (Int32.ofNat (x.toInt + 128).toNat - (128 : Int32)).toInt = x.toInt := by rw [Jvm.Kit.i32_sub (by omega) (by omega), e3, e0]; omega
  refine ⟨(x.toInt + 128).toNat, by omega, ?_, ?_, ?_, ?_⟩
  · apply Int32.toInt_inj.mp; rw [e2, e3]
  · apply Int64.toInt_inj.mp; rw [Jvm.Kit.i64_of_i32, e4]
  · rw [Int32.lt_iff_toInt_lt, e3]; have : (0 : Int32).toInt = 0 := by decide
    omega
  · show (Int32.ofNat (x.toInt + 128).toNat).toInt.toNat = _
    rw [e3]
def own_cache (Z : State) (w_C : Addr) : Prop := ∃ cl : Cell, Arr Z Z.heap w_C cl (.object "java/lang/Long") ∧ cl.slots.size = 256 ∧ ∀ i, i < 256 → ∃ b, cl.slots[i]? = some (.ref b) ∧ Exa Z Z.heap b "java/lang/Long" ∧ Fld Z Z.heap b "java/lang/Long" "value" "J" (.long (Int32.ofNat i - (128 : Int32)).toInt64)
theorem own_ef_valof (m : MethodId) (x0 : Int64) : entryFrame m #[(.long x0)] 3 = mkF m 0 #[.val (.long x0), .second, .unset] [] := by first | (simp [entryFrame, mkF, argsToLocals, Value.category]; done) | rfl
def own_Q_valof (Z : State) (x : Int64) (w_C : Addr) (h0 : Heap) (n0 : Nat) (v : Option Value) (h : Heap) (L : List Loc) : Prop := ∃ b, v = some (.ref b) ∧ Fr n0 L ∧ Keep h0 h [] ∧ Exa Z h b "java/lang/Long" ∧ Fld Z h b "java/lang/Long" "value" "J" (.long x)
set_option maxRecDepth 65536 in
set_option maxHeartbeats 40000000 in
theorem own_rm_valof (l : Launch) (Z : State) (a0 : Array Value) (hw : ∀ d ∈ tables_1, d.before a0 Z = true) (ws : List Jvm.Cond) (x : Int64) (w_C : Addr) (h0 : Heap) (n0 : Nat) (Z0 : n0 ≤ h0.size) (O0 : Old Z n0 h0) (S_C : Sta Z Z.heap "java/lang/Long$LongCache" "cache" "[Ljava/lang/Long;" (.ref w_C)) (hcache : own_cache Z w_C) :
    MetFree l (⟨"java/lang/Long", "valueOf", "(J)Ljava/lang/Long;"⟩ : MethodName) (head1 (Jvm.Cond.code (⟨"java/lang/Long", "valueOf", "(J)Ljava/lang/Long;"⟩ : MethodName) jdk_35_method_24_code 3 (some (.object "java/lang/Long")) :: ws) ({ frames := 3, cells := 1, slots := 1, locals := 39 } : Room)) (fun zz U => zz = #[(.long x)] ∧ Z.Warmed39 U.vm ∧ U.heap = h0) (fun _ _ _ _ _ => True) (fun _ U zo U' => ∃ v L, zo = .returned v ∧ own_Q_valof Z x w_C h0 n0 v U'.heap L ∧ FrameEnd U zo U' L ({ frames := 3, cells := 1, slots := 1, locals := 39 } : Room).cells ({ frames := 3, cells := 1, slots := 1, locals := 39 } : Room).slots) := by
  refine MetFree.of_bodySF (plainFor_of_name own_pn4) hisR ?_
  intro p e s m args below meth c s₁ Bd hml0 hP hK
  obtain ⟨rfl, hZ, hh⟩ := hP
  have hx := Bd.exec
  have hby := Bd.bytes
  have hml : c.maxLocals = 3 := hml0
  have hown : s.vm.findClass "java/lang/Long" = some m.cls := findClass_of_methodNamed Bd.named
  have hnm := (name_of_methodNamed Bd.named Bd.method).1
  have X0 : Stand p l e ({ frames := 3, cells := 1, slots := 1, locals := 39 } : Room) s m #[(.long x)] below meth c s₁ [] 0 0 := Stand.of_body Bd
  have e0 : s₁.heap = h0 := by rw [← hh, Bd.state]; rfl
  have N0 := Fr.nil n0
  show own_Go p e below (own_K s (own_Q_valof Z x w_C h0 n0) ({ frames := 3, cells := 1, slots := 1, locals := 39 } : Room).cells ({ frames := 3, cells := 1, slots := 1, locals := 39 } : Room).slots) s₁ (entryFrame m #[(.long x)] 3)
  rw [own_ef_valof m x]
  show own_Go p e below _ s₁ (mkF m 0 #[.val (.long x), .second, .unset] [])
  have K0 : Keep h0 h0 [] := Keep.refl _ _
  refine own_st (fun _ k => XT.sipushV X0.here hx rfl (128 : Int32) (hb hby own_df_0) (by decide) k) ?_
  show own_Go p e below _ s₁ (mkF m 3 #[.val (.long x), .second, .unset] [(.int 128)])
  refine own_st (fun _ k => XS.istoreN X0.here hx rfl (hb hby own_df_3) rfl (l' := #[.val (.long x), .second, iv 128]) rfl k) ?_
  show own_Go p e below _ s₁ (mkF m 4 #[.val (.long x), .second, iv 128] [])
  refine own_st (fun _ k => XT.lloadN X0.here hx rfl (hb hby own_df_4) rfl k) ?_
  show own_Go p e below _ s₁ (mkF m 5 #[.val (.long x), .second, iv 128] [(.long x)])
  refine own_st (fun _ k => Jvm.Stand.ldc2J X0 hx hown (mvT hZ (hw _ (List.mem_of_getElem? (i := 84) rfl))) rfl (hb hby own_df_5) k) ?_
  show own_Go p e below _ s₁ (mkF m 8 #[.val (.long x), .second, iv 128] [(.long (-128)), (.long x)])
  refine own_st (fun _ k => XT.lcmp X0.here hx rfl (hb hby own_df_8) rfl k) ?_
  show own_Go p e below _ s₁ (mkF m 9 #[.val (.long x), .second, iv 128] [(.int (XT.cmpL x (-128)))])
  by_cases c1 : x < (-128 : Int64)
  · refine own_st (fun _ k => XS.ifYes X0.here hx rfl (pc0 := 9) (pc' := 31) rfl (hb hby own_df_9) rfl (XT.ll_lt_t c1) (by decide) (by decide) k) ?_
    show own_Go p e below _ s₁ (mkF m 31 #[.val (.long x), .second, iv 128] [])
    obtain ⟨T1, h1, X1, e1, x1, A1, D1, -, st1⟩ := newO X0 hx hZ hown (hw _ (List.mem_of_getElem? (i := 117) rfl)) (hw _ (List.mem_of_getElem? (i := 118) rfl)) (hw _ (List.mem_of_getElem? (i := 82) rfl)) e0 (g := (mkF m 31 #[.val (.long x), .second, iv 128] [])) rfl (hb hby own_df_31) (by decide) (by decide)
    obtain ⟨b1, g1⟩ : ∃ z, z = h0.size := ⟨_, rfl⟩
    rw [← g1] at A1 D1 st1
    have g_b1 : n0 ≤ b1 := g1 ▸ Z0
    have sz_b1 : h0.size ≤ b1 := g1 ▸ K0.1
    have O1 := O0.ext x1
    have Z1 : n0 ≤ h1.size := Nat.le_trans Z0 x1.1
    have K1 : Keep h0 h1 [] := K0.ext x1
    have F1_value_b1 : Fld Z h1 b1 "java/lang/Long" "value" "J" (.long (0 : Int64)) := D1 (Or.inr (hw _ (List.mem_of_getElem? (i := 131) rfl))) (ty := .long) (by decide)
    refine own_st st1 ?_
    show own_Go p e below _ T1 (mkF m 34 #[.val (.long x), .second, iv 128] [(.ref b1)])
    refine own_st (fun _ k => XS.dup X1.here hx rfl (hb hby own_df_34) rfl rfl k) ?_
    show own_Go p e below _ T1 (mkF m 35 #[.val (.long x), .second, iv 128] [(.ref b1), (.ref b1)])
    refine own_st (fun _ k => XT.lloadN X1.here hx rfl (hb hby own_df_35) rfl k) ?_
    show own_Go p e below _ T1 (mkF m 36 #[.val (.long x), .second, iv 128] [(.long x), (.ref b1), (.ref b1)])
    obtain ⟨_, _, ⟨T2, L2, k2, n2⟩, -, X2, ⟨Lc2, hQ2, l2, y2, z2⟩, st2⟩ := X1.specialBack hx (y := (⟨"java/lang/Long", "<init>", "(J)V"⟩ : MethodName)) rfl hown (mvT hZ (hw _ (List.mem_of_getElem? (i := 119) rfl))) (mvT hZ (hw _ (List.mem_of_getElem? (i := 120) rfl))) (mvT hZ (hw _ (List.mem_of_getElem? (i := 122) rfl))) (by decide) (backOf (W := 1) (own_rm_loi l Z a0 hw [] b1 x h1 n0 Z1 A1 F1_value_b1 g_b1) hZ (hw _ (List.mem_of_getElem? (i := 122) rfl)) (hw _ (List.mem_of_getElem? (i := 82) rfl)) (by decide) (by decide)) (g := (mkF m 36 #[.val (.long x), .second, iv 128] [(.long x), (.ref b1), (.ref b1)])) rfl (by rw [hml]; rfl) (Steps.refl _) (a := b1) (argsL := [(.long x)]) (rest := [(.ref b1)]) (lenOf own_pd1 rfl) rfl (by show 2 * 0 + _ ≤ _; exact Nat.le_of_eq rfl) (hb hby own_df_36) (fun _ _ => ⟨rfl, e1, (by decide : 1 + 0 ≤ _), (by decide : 1 + 0 ≤ _)⟩)
    dsimp only [Pt.U, Pt.locs, Pt.cells, Pt.slots] at X2 l2 y2 z2 st2 hQ2
    subst l2 y2 z2
    obtain ⟨rfl, N2, KC2, Fv2⟩ := hQ2
    have M2 := Fr.app N0 N2
    refine own_tr st2 ?_
    show own_Go p e below _ T2 (mkF m 39 #[.val (.long x), .second, iv 128] [(.ref b1)])
    have O2 := O1.keep KC2 (allS g_b1 all0)
    have E2_b1 := A1.keep KC2
    have Z2 : n0 ≤ T2.heap.size := Nat.le_trans Z1 KC2.1
    have KK2 : Keep h0 T2.heap [] := K1.trans KC2 (allS (Or.inr sz_b1) all0)
    refine own_retA X2 hx Bd.notSynchronized Bd.returns rfl rfl (hb hby own_df_39) (by decide) (by decide) ?_
    exact ⟨b1, rfl, M2, KK2, E2_b1, Fv2⟩
  · refine own_st (fun _ k => XS.ifNo X0.here hx rfl (hb hby own_df_9) rfl (XT.ll_lt_f c1) k) ?_
    show own_Go p e below _ s₁ (mkF m 12 #[.val (.long x), .second, iv 128] [])
    refine own_st (fun _ k => XT.lloadN X0.here hx rfl (hb hby own_df_12) rfl k) ?_
    show own_Go p e below _ s₁ (mkF m 13 #[.val (.long x), .second, iv 128] [(.long x)])
    refine own_st (fun _ k => Jvm.Stand.ldc2J X0 hx hown (mvT hZ (hw _ (List.mem_of_getElem? (i := 85) rfl))) rfl (hb hby own_df_13) k) ?_
    show own_Go p e below _ s₁ (mkF m 16 #[.val (.long x), .second, iv 128] [(.long 127), (.long x)])
    refine own_st (fun _ k => XT.lcmp X0.here hx rfl (hb hby own_df_16) rfl k) ?_
    show own_Go p e below _ s₁ (mkF m 17 #[.val (.long x), .second, iv 128] [(.int (XT.cmpL x 127))])
    by_cases c2 : (127 : Int64) < x
    · refine own_st (fun _ k => XS.ifYes X0.here hx rfl (pc0 := 17) (pc' := 31) rfl (hb hby own_df_17) rfl (XT.ll_gt_t c2) (by decide) (by decide) k) ?_
      show own_Go p e below _ s₁ (mkF m 31 #[.val (.long x), .second, iv 128] [])
      obtain ⟨T4, h4, X4, e4, x4, A4, D4, -, st4⟩ := newO X0 hx hZ hown (hw _ (List.mem_of_getElem? (i := 117) rfl)) (hw _ (List.mem_of_getElem? (i := 118) rfl)) (hw _ (List.mem_of_getElem? (i := 82) rfl)) e0 (g := (mkF m 31 #[.val (.long x), .second, iv 128] [])) rfl (hb hby own_df_31) (by decide) (by decide)
      obtain ⟨b1, g4⟩ : ∃ z, z = h0.size := ⟨_, rfl⟩
      rw [← g4] at A4 D4 st4
      have g_b1 : n0 ≤ b1 := g4 ▸ Z0
      have sz_b1 : h0.size ≤ b1 := g4 ▸ K0.1
      have O4 := O0.ext x4
      have Z4 : n0 ≤ h4.size := Nat.le_trans Z0 x4.1
      have K4 : Keep h0 h4 [] := K0.ext x4
      have F4_value_b1 : Fld Z h4 b1 "java/lang/Long" "value" "J" (.long (0 : Int64)) := D4 (Or.inr (hw _ (List.mem_of_getElem? (i := 131) rfl))) (ty := .long) (by decide)
      refine own_st st4 ?_
      show own_Go p e below _ T4 (mkF m 34 #[.val (.long x), .second, iv 128] [(.ref b1)])
      refine own_st (fun _ k => XS.dup X4.here hx rfl (hb hby own_df_34) rfl rfl k) ?_
      show own_Go p e below _ T4 (mkF m 35 #[.val (.long x), .second, iv 128] [(.ref b1), (.ref b1)])
      refine own_st (fun _ k => XT.lloadN X4.here hx rfl (hb hby own_df_35) rfl k) ?_
      show own_Go p e below _ T4 (mkF m 36 #[.val (.long x), .second, iv 128] [(.long x), (.ref b1), (.ref b1)])
      obtain ⟨_, _, ⟨T5, L5, k5, n5⟩, -, X5, ⟨Lc5, hQ5, l5, y5, z5⟩, st5⟩ := X4.specialBack hx (y := (⟨"java/lang/Long", "<init>", "(J)V"⟩ : MethodName)) rfl hown (mvT hZ (hw _ (List.mem_of_getElem? (i := 119) rfl))) (mvT hZ (hw _ (List.mem_of_getElem? (i := 120) rfl))) (mvT hZ (hw _ (List.mem_of_getElem? (i := 122) rfl))) (by decide) (backOf (W := 1) (own_rm_loi l Z a0 hw [] b1 x h4 n0 Z4 A4 F4_value_b1 g_b1) hZ (hw _ (List.mem_of_getElem? (i := 122) rfl)) (hw _ (List.mem_of_getElem? (i := 82) rfl)) (by decide) (by decide)) (g := (mkF m 36 #[.val (.long x), .second, iv 128] [(.long x), (.ref b1), (.ref b1)])) rfl (by rw [hml]; rfl) (Steps.refl _) (a := b1) (argsL := [(.long x)]) (rest := [(.ref b1)]) (lenOf own_pd1 rfl) rfl (by show 2 * 0 + _ ≤ _; exact Nat.le_of_eq rfl) (hb hby own_df_36) (fun _ _ => ⟨rfl, e4, (by decide : 1 + 0 ≤ _), (by decide : 1 + 0 ≤ _)⟩)
      dsimp only [Pt.U, Pt.locs, Pt.cells, Pt.slots] at X5 l5 y5 z5 st5 hQ5
      subst l5 y5 z5
      obtain ⟨rfl, N5, KC5, Fv5⟩ := hQ5
      have M5 := Fr.app N0 N5
      refine own_tr st5 ?_
      show own_Go p e below _ T5 (mkF m 39 #[.val (.long x), .second, iv 128] [(.ref b1)])
      have O5 := O4.keep KC5 (allS g_b1 all0)
      have E5_b1 := A4.keep KC5
      have Z5 : n0 ≤ T5.heap.size := Nat.le_trans Z4 KC5.1
      have KK5 : Keep h0 T5.heap [] := K4.trans KC5 (allS (Or.inr sz_b1) all0)
      refine own_retA X5 hx Bd.notSynchronized Bd.returns rfl rfl (hb hby own_df_39) (by decide) (by decide) ?_
      exact ⟨b1, rfl, M5, KK5, E5_b1, Fv5⟩
    · refine own_st (fun _ k => XS.ifNo X0.here hx rfl (hb hby own_df_17) rfl (XT.ll_gt_f c2) k) ?_
      show own_Go p e below _ s₁ (mkF m 20 #[.val (.long x), .second, iv 128] [])
      obtain ⟨T7, X7, e7, st7⟩ := getS2 X0 hx hZ hown (host := "") (Or.inl (hw _ (List.mem_of_getElem? (i := 86) rfl))) Via.refl e0 (S_C.ext O0.2) (g := (mkF m 20 #[.val (.long x), .second, iv 128] [])) rfl (hb hby own_df_20)
      refine own_st st7 ?_
      show own_Go p e below _ T7 (mkF m 23 #[.val (.long x), .second, iv 128] [(.ref w_C)])
      refine own_st (fun _ k => XT.lloadN X7.here hx rfl (hb hby own_df_23) rfl k) ?_
      show own_Go p e below _ T7 (mkF m 24 #[.val (.long x), .second, iv 128] [(.long x), (.ref w_C)])
      refine own_st (fun _ k => XT.l2i X7.here hx rfl (hb hby own_df_24) rfl k) ?_
      show own_Go p e below _ T7 (mkF m 25 #[.val (.long x), .second, iv 128] [(.int x.toInt32), (.ref w_C)])
      refine own_st (fun _ k => XT.sipushV X7.here hx rfl (128 : Int32) (hb hby own_df_25) (by decide) k) ?_
      show own_Go p e below _ T7 (mkF m 28 #[.val (.long x), .second, iv 128] [(.int 128), (.int x.toInt32), (.ref w_C)])
      refine own_st (fun _ k => XS.iadd X7.here hx rfl (hb hby own_df_28) rfl k) ?_
      show own_Go p e below _ T7 (mkF m 29 #[.val (.long x), .second, iv 128] [(.int (x.toInt32 + 128)), (.ref w_C)])
      obtain ⟨ci, hci, hcj, hcx, hc0, hcn⟩ := own_cacheI c1 c2
      obtain ⟨cl, hcl, hcs, hce⟩ := hcache
      obtain ⟨bb, hcb, Eb, Fb⟩ := hce ci hci
      rw [← hcx] at Fb
      rw [hcj]
      show own_Go p e below _ T7 (mkF m 29 #[.val (.long x), .second, iv 128] [(.int (Int32.ofNat ci)), (.ref w_C)])
      have q1 : T7.heap[w_C]? = some cl := by rw [e7]; exact (hcl.ext O0.2).1
      have q2 : s.isArrayOf cl (.object "java/lang/Long") := State.isArrayOf_alike hZ.alike hcl.2.1
      have q3 : ¬ (Int32.ofNat ci < 0 ∨ cl.slots.size ≤ (Int32.ofNat ci).toNatClampNeg) := by rw [hcs, hcn]; exact fun y => y.elim hc0 (Nat.not_le.mpr hci)
      have q4 : cl.slots[(Int32.ofNat ci).toNatClampNeg]? = some (.ref bb) := by rw [hcn]; exact hcb
      refine own_st (fun tg k => X7.aaload hx (a := w_C) (cell := cl) (j := Int32.ofNat ci) (v := .ref bb) (ty := .object "java/lang/Long") (g := (mkF m 29 #[.val (.long x), .second, iv 128] [(.int (Int32.ofNat ci)), (.ref w_C)])) q1 q2 rfl hcl.2.2 q3 q4 rfl rfl (hb hby own_df_29) tg k) ?_
      show own_Go p e below _ T7 (mkF m 30 #[.val (.long x), .second, iv 128] [(.ref bb)])
      refine own_retA X7 hx Bd.notSynchronized Bd.returns rfl rfl (hb hby own_df_30) (by decide) (by decide) ?_
      rw [e7]
      exact ⟨bb, rfl, N0, K0, Eb.ext O0.2, Fb.ext O0.2⟩
theorem own_ef_max (m : MethodId) (x0 : Int32) (x1 : Int32) : entryFrame m #[(.int x0), (.int x1)] 2 = mkF m 0 #[.val (.int x0), .val (.int x1)] [] := by first | (simp [entryFrame, mkF, argsToLocals, Value.category]; done) | rfl
def own_Q_max (Z : State)  (h0 : Heap) (n0 : Nat) (v : Option Value) (h : Heap) (L : List Loc) : Prop := v = some (.int 10) ∧ Fr n0 L ∧ h = h0
set_option maxRecDepth 65536 in
set_option maxHeartbeats 40000000 in
theorem own_rm_max (l : Launch) (Z : State) (a0 : Array Value) (hw : ∀ d ∈ tables_1, d.before a0 Z = true) (ws : List Jvm.Cond)  (h0 : Heap) (n0 : Nat) (Z0 : n0 ≤ h0.size)  :
    MetFree l (⟨"java/lang/Math", "max", "(II)I"⟩ : MethodName) (head1 (Jvm.Cond.code (⟨"java/lang/Math", "max", "(II)I"⟩ : MethodName) jdk_29_method_65_code 2 (some .int) :: ws) ({ frames := 0, cells := 0, slots := 0, locals := 0 } : Room)) (fun zz U => zz = #[(.int (10 : Int32)), (.int (1 : Int32))] ∧ Z.Warmed39 U.vm ∧ U.heap = h0) (fun _ _ _ _ _ => True) (fun _ U zo U' => ∃ v L, zo = .returned v ∧ own_Q_max Z  h0 n0 v U'.heap L ∧ FrameEnd U zo U' L ({ frames := 0, cells := 0, slots := 0, locals := 0 } : Room).cells ({ frames := 0, cells := 0, slots := 0, locals := 0 } : Room).slots) := by
  refine MetFree.of_bodySF (Jvm.Free.JP.mathPlain rfl (by decide +kernel)) hisR ?_
  intro p e s m args below meth c s₁ Bd hml0 hP hK
  obtain ⟨rfl, hZ, hh⟩ := hP
  have hx := Bd.exec
  have hby := Bd.bytes
  have hml : c.maxLocals = 2 := hml0
  have hown : s.vm.findClass "java/lang/Math" = some m.cls := findClass_of_methodNamed Bd.named
  have hnm := (name_of_methodNamed Bd.named Bd.method).1
  have X0 : Stand p l e ({ frames := 0, cells := 0, slots := 0, locals := 0 } : Room) s m #[(.int (10 : Int32)), (.int (1 : Int32))] below meth c s₁ [] 0 0 := Stand.of_body Bd
  have e0 : s₁.heap = h0 := by rw [← hh, Bd.state]; rfl
  have N0 := Fr.nil n0
  show own_Go p e below (own_K s (own_Q_max Z  h0 n0) ({ frames := 0, cells := 0, slots := 0, locals := 0 } : Room).cells ({ frames := 0, cells := 0, slots := 0, locals := 0 } : Room).slots) s₁ (entryFrame m #[(.int (10 : Int32)), (.int (1 : Int32))] 2)
  rw [own_ef_max m (10 : Int32) (1 : Int32)]
  show own_Go p e below _ s₁ (mkF m 0 #[iv 10, iv 1] [])
  refine own_st (fun _ k => XS.iloadN X0.here hx rfl (hb hby own_dl_0) rfl k) ?_
  show own_Go p e below _ s₁ (mkF m 1 #[iv 10, iv 1] [(.int 10)])
  refine own_st (fun _ k => XS.iloadN X0.here hx rfl (hb hby own_dl_1) rfl k) ?_
  show own_Go p e below _ s₁ (mkF m 2 #[iv 10, iv 1] [(.int 1), (.int 10)])
  refine own_st (fun _ k => XS.icmpNo X0.here hx rfl (hb hby own_dl_2) rfl (XT.ii_lt_f (by decide)) k) ?_
  show own_Go p e below _ s₁ (mkF m 5 #[iv 10, iv 1] [])
  refine own_st (fun _ k => XS.iloadN X0.here hx rfl (hb hby own_dl_5) rfl k) ?_
  show own_Go p e below _ s₁ (mkF m 6 #[iv 10, iv 1] [(.int 10)])
  refine own_st (fun _ k => XS.goto X0.here hx rfl (pc0 := 6) (pc' := 10) rfl (hb hby own_dl_6) (by decide) (by decide) k) ?_
  show own_Go p e below _ s₁ (mkF m 10 #[iv 10, iv 1] [(.int 10)])
  refine own_retI X0 hx Bd.notSynchronized Bd.returns (hb hby own_dl_10) (by decide) (by decide) ?_
  rw [e0]
  exact ⟨rfl, N0, rfl⟩
theorem own_ef_grow1 (m : MethodId) (x0 : Addr) (x1 : Int32) : entryFrame m #[(.ref x0), (.int x1)] 4 = mkF m 0 #[.val (.ref x0), .val (.int x1), .unset, .unset] [] := by first | (simp [entryFrame, mkF, argsToLocals, Value.category]; done) | rfl
def own_Q_grow1 (Z : State) (a : Addr) (w_D : Addr) (k_D : ClassId) (mc : Int32) (h0 : Heap) (n0 : Nat) (v : Option Value) (h : Heap) (L : List Loc) : Prop := ∃ d kd, v = some (.ref d) ∧ Fr n0 L ∧ Keep h0 h [a] ∧ Fld Z h a "java/util/AbstractList" "modCount" "I" (.int mc) ∧ Fld Z h a "java/util/ArrayList" "elementData" "[Ljava/lang/Object;" (.ref d) ∧ Fld Z h a "java/util/ArrayList" "size" "I" (.int (0 : Int32)) ∧ Arv Z h d kd (.object "java/lang/Object") (10 : Int32) [.null, .null, .null, .null, .null, .null, .null, .null, .null, .null] .null ∧ Ovr Z kd "java/lang/Object" ∧ h0.size ≤ d
set_option maxRecDepth 65536 in
set_option maxHeartbeats 40000000 in
theorem own_rm_grow1 (l : Launch) (Z : State) (a0 : Array Value) (hw : ∀ d ∈ tables_1, d.before a0 Z = true) (ws : List Jvm.Cond) (a : Addr) (w_D : Addr) (k_D : ClassId) (mc : Int32) (h0 : Heap) (n0 : Nat) (Z0 : n0 ≤ h0.size) (E_a : Exa Z h0 a "java/util/ArrayList") (F_m : Fld Z h0 a "java/util/AbstractList" "modCount" "I" (.int mc)) (F_e : Fld Z h0 a "java/util/ArrayList" "elementData" "[Ljava/lang/Object;" (.ref w_D)) (F_s : Fld Z h0 a "java/util/ArrayList" "size" "I" (.int (0 : Int32))) (g_a : n0 ≤ a) (O0 : Old Z n0 h0) (S_D : Sta Z Z.heap "java/util/ArrayList" "DEFAULTCAPACITY_EMPTY_ELEMENTDATA" "[Ljava/lang/Object;" (.ref w_D)) (V_D : Arv Z Z.heap w_D k_D (.object "java/lang/Object") (0 : Int32) [] .null) :
    MetFree l (⟨"java/util/ArrayList", "grow", "(I)[Ljava/lang/Object;"⟩ : MethodName) (head1 (Jvm.Cond.code (⟨"java/util/ArrayList", "grow", "(I)[Ljava/lang/Object;"⟩ : MethodName) jdk_38_method_6_code 4 (some (.array (.object "java/lang/Object"))) :: ws) ({ frames := 1, cells := 1, slots := 10, locals := 14 } : Room)) (fun zz U => zz = #[(.ref a), (.int (1 : Int32))] ∧ Z.Warmed39 U.vm ∧ U.heap = h0) (fun _ _ _ _ _ => True) (fun _ U zo U' => ∃ v L, zo = .returned v ∧ own_Q_grow1 Z a w_D k_D mc h0 n0 v U'.heap L ∧ FrameEnd U zo U' L ({ frames := 1, cells := 1, slots := 10, locals := 14 } : Room).cells ({ frames := 1, cells := 1, slots := 10, locals := 14 } : Room).slots) := by
  refine MetFree.of_bodySF (plainFor_of_name own_pn3) hisR ?_
  intro p e s m args below meth c s₁ Bd hml0 hP hK
  obtain ⟨rfl, hZ, hh⟩ := hP
  have hx := Bd.exec
  have hby := Bd.bytes
  have hml : c.maxLocals = 4 := hml0
  have hown : s.vm.findClass "java/util/ArrayList" = some m.cls := findClass_of_methodNamed Bd.named
  have hnm := (name_of_methodNamed Bd.named Bd.method).1
  have X0 : Stand p l e ({ frames := 1, cells := 1, slots := 10, locals := 14 } : Room) s m #[(.ref a), (.int (1 : Int32))] below meth c s₁ [] 0 0 := Stand.of_body Bd
  have e0 : s₁.heap = h0 := by rw [← hh, Bd.state]; rfl
  have N0 := Fr.nil n0
  show own_Go p e below (own_K s (own_Q_grow1 Z a w_D k_D mc h0 n0) ({ frames := 1, cells := 1, slots := 10, locals := 14 } : Room).cells ({ frames := 1, cells := 1, slots := 10, locals := 14 } : Room).slots) s₁ (entryFrame m #[(.ref a), (.int (1 : Int32))] 4)
  rw [own_ef_grow1 m a (1 : Int32)]
  show own_Go p e below _ s₁ (mkF m 0 #[rv a, iv 1, .unset, .unset] [])
  have K0 : Keep h0 h0 [a] := Keep.refl _ _
  refine own_st (fun _ k => XS.aloadN X0.here hx rfl (hb hby own_dk_0) rfl rfl k) ?_
  show own_Go p e below _ s₁ (mkF m 1 #[rv a, iv 1, .unset, .unset] [(.ref a)])
  obtain ⟨T1, X1, e1, st1⟩ := getF X0 hx hZ hown (host := "") (Or.inl (hw _ (List.mem_of_getElem? (i := 24) rfl))) Via.refl e0 F_e (g := (mkF m 1 #[rv a, iv 1, .unset, .unset] [(.ref a)])) rfl rfl (hb hby own_dk_1)
  refine own_st st1 ?_
  show own_Go p e below _ T1 (mkF m 4 #[rv a, iv 1, .unset, .unset] [(.ref w_D)])
  refine own_st (fun _ k => own_len X1 hx hZ e1 (V_D.ext O0.2) rfl rfl (hb hby own_dk_4) k) ?_
  show own_Go p e below _ T1 (mkF m 5 #[rv a, iv 1, .unset, .unset] [(.int 0)])
  refine own_st (fun _ k => XS.istoreN X1.here hx rfl (hb hby own_dk_5) rfl (l' := #[rv a, iv 1, iv 0, .unset]) rfl k) ?_
  show own_Go p e below _ T1 (mkF m 6 #[rv a, iv 1, iv 0, .unset] [])
  refine own_st (fun _ k => XS.iloadN X1.here hx rfl (hb hby own_dk_6) rfl k) ?_
  show own_Go p e below _ T1 (mkF m 7 #[rv a, iv 1, iv 0, .unset] [(.int 0)])
  refine own_st (fun _ k => XS.ifNo X1.here hx rfl (hb hby own_dk_7) rfl (XT.i0_gt_f (by decide)) k) ?_
  show own_Go p e below _ T1 (mkF m 10 #[rv a, iv 1, iv 0, .unset] [])
  refine own_st (fun _ k => XS.aloadN X1.here hx rfl (hb hby own_dk_10) rfl rfl k) ?_
  show own_Go p e below _ T1 (mkF m 11 #[rv a, iv 1, iv 0, .unset] [(.ref a)])
  obtain ⟨T2, X2, e2, st2⟩ := getF X1 hx hZ hown (host := "") (Or.inl (hw _ (List.mem_of_getElem? (i := 24) rfl))) Via.refl e1 F_e (g := (mkF m 11 #[rv a, iv 1, iv 0, .unset] [(.ref a)])) rfl rfl (hb hby own_dk_11)
  refine own_st st2 ?_
  show own_Go p e below _ T2 (mkF m 14 #[rv a, iv 1, iv 0, .unset] [(.ref w_D)])
  obtain ⟨T3, X3, e3, st3⟩ := getS2 X2 hx hZ hown (host := "") (Or.inl (hw _ (List.mem_of_getElem? (i := 23) rfl))) Via.refl e2 (S_D.ext O0.2) (g := (mkF m 14 #[rv a, iv 1, iv 0, .unset] [(.ref w_D)])) rfl (hb hby own_dk_14)
  refine own_st st3 ?_
  show own_Go p e below _ T3 (mkF m 17 #[rv a, iv 1, iv 0, .unset] [(.ref w_D), (.ref w_D)])
  refine own_st (fun _ k => XT.acmpYes X3.here hx rfl (pc0 := 17) (pc' := 45) rfl (hb hby own_dk_17) rfl rfl rfl (XT.aa_eq_t rfl) (by decide) (by decide) k) ?_
  show own_Go p e below _ T3 (mkF m 45 #[rv a, iv 1, iv 0, .unset] [])
  refine own_st (fun _ k => XS.aloadN X3.here hx rfl (hb hby own_dk_45) rfl rfl k) ?_
  show own_Go p e below _ T3 (mkF m 46 #[rv a, iv 1, iv 0, .unset] [(.ref a)])
  refine own_st (fun _ k => XT.bipushV X3.here hx rfl (10 : Int32) (hb hby own_dk_46) (by decide) k) ?_
  show own_Go p e below _ T3 (mkF m 48 #[rv a, iv 1, iv 0, .unset] [(.int 10), (.ref a)])
  refine own_st (fun _ k => XS.iloadN X3.here hx rfl (hb hby own_dk_48) rfl k) ?_
  show own_Go p e below _ T3 (mkF m 49 #[rv a, iv 1, iv 0, .unset] [(.int 1), (.int 10), (.ref a)])
  obtain ⟨_, _, ⟨T4, L4, k4, n4⟩, -, X4, ⟨Lc4, hQ4, l4, y4, z4⟩, st4⟩ := Jvm.LawKit.callS X3 hx (y := (⟨"java/lang/Math", "max", "(II)I"⟩ : MethodName)) hown (mvT hZ (hw _ (List.mem_of_getElem? (i := 110) rfl))) (mvT hZ (hw _ (List.mem_of_getElem? (i := 111) rfl))) (mvT hZ (hw _ (List.mem_of_getElem? (i := 112) rfl))) (mvT hZ (hw _ (List.mem_of_getElem? (i := 113) rfl))) (by decide) (backOf (W := 1) (own_rm_max l Z a0 hw [] h0 n0 Z0) hZ (hw _ (List.mem_of_getElem? (i := 113) rfl)) (hw _ (List.mem_of_getElem? (i := 112) rfl)) (by decide) (by decide)) (g := (mkF m 49 #[rv a, iv 1, iv 0, .unset] [(.int 1), (.int 10), (.ref a)])) rfl (by rw [hml]; rfl) (argsL := [(.int (10 : Int32)), (.int (1 : Int32))]) (rest := [(.ref a)]) (lenOf own_pd2 rfl) rfl (by show 2 * 0 + _ ≤ _; exact Nat.le_of_eq rfl) (hb hby own_dk_49) (fun _ _ => ⟨rfl, e3, (by decide : 0 + 0 ≤ _), (by decide : 0 + 0 ≤ _)⟩)
  dsimp only [Pt.U, Pt.locs, Pt.cells, Pt.slots] at X4 l4 y4 z4 st4 hQ4
  subst l4 y4 z4
  obtain ⟨rfl, N4, eh4⟩ := hQ4
  have M4 := Fr.app N0 N4
  refine own_st st4 ?_
  show own_Go p e below _ T4 (mkF m 52 #[rv a, iv 1, iv 0, .unset] [(.int 10), (.ref a)])
  obtain ⟨T5, h5, k_d1, X5, e5, x5, A5, Ov_d1, st5⟩ := newR X4 hx hZ hown (hw _ (List.mem_of_getElem? (i := 114) rfl)) (hw _ (List.mem_of_getElem? (i := 115) rfl)) eh4 (g := (mkF m 52 #[rv a, iv 1, iv 0, .unset] [(.int 10), (.ref a)])) rfl (hb hby own_dk_52) rfl (by decide) (cap := 10) (by decide) (by decide) (by decide) (by decide)
  obtain ⟨d1, g5⟩ : ∃ z, z = h0.size := ⟨_, rfl⟩
  rw [← g5] at A5 st5
  have ne_a_d1 : a ≠ d1 := g5 ▸ Nat.ne_of_lt E_a.lt
  have g_d1 : n0 ≤ d1 := g5 ▸ Z0
  have sz_d1 : h0.size ≤ d1 := g5 ▸ K0.1
  have O5 := O0.ext x5
  have E5_a := E_a.ext x5
  have F5_modCount_a := F_m.ext x5
  have F5_elementData_a := F_e.ext x5
  have F5_size_a := F_s.ext x5
  have Z5 : n0 ≤ h5.size := Nat.le_trans Z0 x5.1
  have K5 : Keep h0 h5 [a] := K0.ext x5
  have V5_d1 : Arv Z h5 d1 k_d1 (.object "java/lang/Object") (10 : Int32) [.null, .null, .null, .null, .null, .null, .null, .null, .null, .null] .null := (Arv.new A5 (by decide)).pad (pad_rep [] .null 10)
  refine own_st st5 ?_
  show own_Go p e below _ T5 (mkF m 55 #[rv a, iv 1, iv 0, .unset] [(.ref d1), (.ref a)])
  refine own_st (fun _ k => XT.dupX1 X5.here hx rfl (hb hby own_dk_55) rfl rfl rfl k) ?_
  show own_Go p e below _ T5 (mkF m 56 #[rv a, iv 1, iv 0, .unset] [(.ref d1), (.ref a), (.ref d1)])
  obtain ⟨T6, h6, X6, e6, W6, st6⟩ := putF X5 hx hZ hown (host := "") (Or.inl (hw _ (List.mem_of_getElem? (i := 24) rfl))) Via.refl e5 F5_elementData_a E5_a (Or.inl (hw _ (List.mem_of_getElem? (i := 25) rfl))) (hw _ (List.mem_of_getElem? (i := 1) rfl)) (ty := .array (.object "java/lang/Object")) (by decide) rfl rfl (g := (mkF m 56 #[rv a, iv 1, iv 0, .unset] [(.ref d1), (.ref a), (.ref d1)])) rfl rfl (hb hby own_dk_56)
  have O6 := O5.wr W6 g_a
  have V6_d1 := V5_d1.other W6 ne_a_d1.symm
  have E6_a := E5_a.wr W6
  have F6_modCount_a := F5_modCount_a.other W6 (Or.inr (slot_ne (Or.inl (hw _ (List.mem_of_getElem? (i := 22) rfl))) (Or.inl (hw _ (List.mem_of_getElem? (i := 25) rfl))) (by decide) (t := .int) (t' := .array (.object "java/lang/Object")) (by decide) (by decide)))
  have F6_elementData_a := F5_elementData_a.same W6
  have F6_size_a := F5_size_a.other W6 (Or.inr (slot_ne (Or.inl (hw _ (List.mem_of_getElem? (i := 59) rfl))) (Or.inl (hw _ (List.mem_of_getElem? (i := 25) rfl))) (by decide) (t := .int) (t' := .array (.object "java/lang/Object")) (by decide) (by decide)))
  have Z6 : n0 ≤ h6.size := by rw [W6.size]; exact Z5
  have K6 : Keep h0 h6 [a] := K5.wr W6 (Or.inl (List.mem_of_getElem? (i := 0) rfl))
  have N6 := Fr.snoc X6 M4 g_a
  refine own_st st6 ?_
  show own_Go p e below _ T6 (mkF m 59 #[rv a, iv 1, iv 0, .unset] [(.ref d1)])
  refine own_retA X6 hx Bd.notSynchronized Bd.returns rfl rfl (hb hby own_dk_59) (by decide) (by decide) ?_
  rw [e6]
  exact ⟨d1, k_d1, rfl, N6, K6, F6_modCount_a, F6_elementData_a, F6_size_a, V6_d1, Ov_d1, sz_d1⟩
theorem own_ef_grow0 (m : MethodId) (x0 : Addr) : entryFrame m #[(.ref x0)] 1 = mkF m 0 #[.val (.ref x0)] [] := by first | (simp [entryFrame, mkF, argsToLocals, Value.category]; done) | rfl
def own_Q_grow0 (Z : State) (a : Addr) (w_D : Addr) (k_D : ClassId) (mc : Int32) (h0 : Heap) (n0 : Nat) (v : Option Value) (h : Heap) (L : List Loc) : Prop := ∃ d kd, v = some (.ref d) ∧ Fr n0 L ∧ Keep h0 h [a] ∧ Fld Z h a "java/util/AbstractList" "modCount" "I" (.int mc) ∧ Fld Z h a "java/util/ArrayList" "elementData" "[Ljava/lang/Object;" (.ref d) ∧ Fld Z h a "java/util/ArrayList" "size" "I" (.int (0 : Int32)) ∧ Arv Z h d kd (.object "java/lang/Object") (10 : Int32) [.null, .null, .null, .null, .null, .null, .null, .null, .null, .null] .null ∧ Ovr Z kd "java/lang/Object" ∧ h0.size ≤ d
set_option maxRecDepth 65536 in
set_option maxHeartbeats 40000000 in
theorem own_rm_grow0 (l : Launch) (Z : State) (a0 : Array Value) (hw : ∀ d ∈ tables_1, d.before a0 Z = true) (ws : List Jvm.Cond) (a : Addr) (w_D : Addr) (k_D : ClassId) (mc : Int32) (h0 : Heap) (n0 : Nat) (Z0 : n0 ≤ h0.size) (E_a : Exa Z h0 a "java/util/ArrayList") (F_m : Fld Z h0 a "java/util/AbstractList" "modCount" "I" (.int mc)) (F_e : Fld Z h0 a "java/util/ArrayList" "elementData" "[Ljava/lang/Object;" (.ref w_D)) (F_s : Fld Z h0 a "java/util/ArrayList" "size" "I" (.int (0 : Int32))) (g_a : n0 ≤ a) (O0 : Old Z n0 h0) (S_D : Sta Z Z.heap "java/util/ArrayList" "DEFAULTCAPACITY_EMPTY_ELEMENTDATA" "[Ljava/lang/Object;" (.ref w_D)) (V_D : Arv Z Z.heap w_D k_D (.object "java/lang/Object") (0 : Int32) [] .null) :
    MetFree l (⟨"java/util/ArrayList", "grow", "()[Ljava/lang/Object;"⟩ : MethodName) (head1 (Jvm.Cond.code (⟨"java/util/ArrayList", "grow", "()[Ljava/lang/Object;"⟩ : MethodName) jdk_38_method_7_code 1 (some (.array (.object "java/lang/Object"))) :: ws) ({ frames := 2, cells := 1, slots := 10, locals := 29 } : Room)) (fun zz U => zz = #[(.ref a)] ∧ Z.Warmed39 U.vm ∧ U.heap = h0) (fun _ _ _ _ _ => True) (fun _ U zo U' => ∃ v L, zo = .returned v ∧ own_Q_grow0 Z a w_D k_D mc h0 n0 v U'.heap L ∧ FrameEnd U zo U' L ({ frames := 2, cells := 1, slots := 10, locals := 29 } : Room).cells ({ frames := 2, cells := 1, slots := 10, locals := 29 } : Room).slots) := by
  refine MetFree.of_bodySF (plainFor_of_name own_pn3) hisR ?_
  intro p e s m args below meth c s₁ Bd hml0 hP hK
  obtain ⟨rfl, hZ, hh⟩ := hP
  have hx := Bd.exec
  have hby := Bd.bytes
  have hml : c.maxLocals = 1 := hml0
  have hown : s.vm.findClass "java/util/ArrayList" = some m.cls := findClass_of_methodNamed Bd.named
  have hnm := (name_of_methodNamed Bd.named Bd.method).1
  have X0 : Stand p l e ({ frames := 2, cells := 1, slots := 10, locals := 29 } : Room) s m #[(.ref a)] below meth c s₁ [] 0 0 := Stand.of_body Bd
  have e0 : s₁.heap = h0 := by rw [← hh, Bd.state]; rfl
  have N0 := Fr.nil n0
  show own_Go p e below (own_K s (own_Q_grow0 Z a w_D k_D mc h0 n0) ({ frames := 2, cells := 1, slots := 10, locals := 29 } : Room).cells ({ frames := 2, cells := 1, slots := 10, locals := 29 } : Room).slots) s₁ (entryFrame m #[(.ref a)] 1)
  rw [own_ef_grow0 m a]
  show own_Go p e below _ s₁ (mkF m 0 #[rv a] [])
  have K0 : Keep h0 h0 [a] := Keep.refl _ _
  refine own_st (fun _ k => XS.aloadN X0.here hx rfl (hb hby own_dj_0) rfl rfl k) ?_
  show own_Go p e below _ s₁ (mkF m 1 #[rv a] [(.ref a)])
  refine own_st (fun _ k => XS.aloadN X0.here hx rfl (hb hby own_dj_1) rfl rfl k) ?_
  show own_Go p e below _ s₁ (mkF m 2 #[rv a] [(.ref a), (.ref a)])
  obtain ⟨T1, X1, e1, st1⟩ := getF X0 hx hZ hown (host := "") (Or.inl (hw _ (List.mem_of_getElem? (i := 58) rfl))) Via.refl e0 F_s (g := (mkF m 2 #[rv a] [(.ref a), (.ref a)])) rfl rfl (hb hby own_dj_2)
  refine own_st st1 ?_
  show own_Go p e below _ T1 (mkF m 5 #[rv a] [(.int 0), (.ref a)])
  refine own_st (fun _ k => XT.iconstV X1.here hx rfl (1 : Int32) (hb hby own_dj_5) (by decide) k) ?_
  show own_Go p e below _ T1 (mkF m 6 #[rv a] [(.int 1), (.int 0), (.ref a)])
  refine own_st (fun _ k => XS.iadd X1.here hx rfl (hb hby own_dj_6) rfl k) ?_
  show own_Go p e below _ T1 (mkF m 7 #[rv a] [(.int (0 + 1)), (.ref a)])
  rw [show (0 : Int32) + (1 : Int32) = (1 : Int32) from by decide]
  show own_Go p e below _ T1 (mkF m 7 #[rv a] [(.int 1), (.ref a)])
  obtain ⟨cq2, q2, q2'⟩ := E_a.cell
  obtain ⟨_, _, ⟨T2, L2, k2, n2⟩, -, X2, ⟨Lc2, hQ2, l2, y2, z2⟩, st2⟩ := X1.privateBack hx (y := (⟨"java/util/ArrayList", "grow", "(I)[Ljava/lang/Object;"⟩ : MethodName)) hown (mvT hZ (hw _ (List.mem_of_getElem? (i := 105) rfl))) (mvT hZ (hw _ (List.mem_of_getElem? (i := 106) rfl))) (mvT hZ (hw _ (List.mem_of_getElem? (i := 108) rfl))) (Cond.privateMethod_at (mvP hZ (hw _ (List.mem_of_getElem? (i := 107) rfl)) (args := #[]))) (mvT hZ (hw _ (List.mem_of_getElem? (i := 109) rfl))) (by decide) (backOf (W := 0) (own_rm_grow1 l Z a0 hw [] a w_D k_D mc h0 n0 Z0 E_a F_m F_e F_s g_a O0 S_D V_D) hZ (hw _ (List.mem_of_getElem? (i := 109) rfl)) (hw _ (List.mem_of_getElem? (i := 2) rfl)) (by decide) (by decide)) (g := (mkF m 7 #[rv a] [(.int 1), (.ref a)])) rfl (by rw [hml]; rfl) (Steps.refl _) (a := a) (by rw [e1]; exact q2) q2' (argsL := [(.int (1 : Int32))]) (rest := []) (lenOf own_pd3 rfl) rfl (by show 2 * 0 + _ ≤ _; exact Nat.le_of_eq rfl) (hb hby own_dj_7) (fun _ _ => ⟨rfl, e1, (by decide : 0 + 1 ≤ _), (by decide : 0 + 10 ≤ _)⟩)
  dsimp only [Pt.U, Pt.locs, Pt.cells, Pt.slots] at X2 l2 y2 z2 st2 hQ2
  subst l2 y2 z2
  obtain ⟨d1, k_d1, rfl, N2, KC2, Fm2, Fe2, Fs2, Vd2, Ov_d1, sz_d1⟩ := hQ2
  have M2 := Fr.app N0 N2
  refine own_tr st2 ?_
  show own_Go p e below _ T2 (mkF m 10 #[rv a] [(.ref d1)])
  refine own_retA X2 hx Bd.notSynchronized Bd.returns rfl rfl (hb hby own_dj_10) (by decide) (by decide) ?_
  exact ⟨d1, k_d1, rfl, M2, KC2, Fm2, Fe2, Fs2, Vd2, Ov_d1, sz_d1⟩
theorem own_ef_add3a (m : MethodId) (x0 : Addr) (x1 : Addr) (x2 : Addr) (x3 : Int32) : entryFrame m #[(.ref x0), (.ref x1), (.ref x2), (.int x3)] 4 = mkF m 0 #[.val (.ref x0), .val (.ref x1), .val (.ref x2), .val (.int x3)] [] := by first | (simp [entryFrame, mkF, argsToLocals, Value.category]; done) | rfl
def own_Q_add3a (Z : State) (a : Addr) (b : Addr) (w_D : Addr) (k_D : ClassId) (mc : Int32) (h0 : Heap) (n0 : Nat) (v : Option Value) (h : Heap) (L : List Loc) : Prop := ∃ d kd, v = none ∧ Fr n0 L ∧ Keep h0 h [a] ∧ Fld Z h a "java/util/AbstractList" "modCount" "I" (.int mc) ∧ Fld Z h a "java/util/ArrayList" "elementData" "[Ljava/lang/Object;" (.ref d) ∧ Fld Z h a "java/util/ArrayList" "size" "I" (.int (1 : Int32)) ∧ Arv Z h d kd (.object "java/lang/Object") (10 : Int32) [(.ref b), .null, .null, .null, .null, .null, .null, .null, .null, .null] .null ∧ Ovr Z kd "java/lang/Object" ∧ h0.size ≤ d
set_option maxRecDepth 65536 in
set_option maxHeartbeats 40000000 in
theorem own_rm_add3a (l : Launch) (Z : State) (a0 : Array Value) (hw : ∀ d ∈ tables_1, d.before a0 Z = true) (ws : List Jvm.Cond) (a : Addr) (b : Addr) (w_D : Addr) (k_D : ClassId) (mc : Int32) (h0 : Heap) (n0 : Nat) (Z0 : n0 ≤ h0.size) (E_a : Exa Z h0 a "java/util/ArrayList") (F_m : Fld Z h0 a "java/util/AbstractList" "modCount" "I" (.int mc)) (F_e : Fld Z h0 a "java/util/ArrayList" "elementData" "[Ljava/lang/Object;" (.ref w_D)) (F_s : Fld Z h0 a "java/util/ArrayList" "size" "I" (.int (0 : Int32))) (g_a : n0 ≤ a) (O0 : Old Z n0 h0) (S_D : Sta Z Z.heap "java/util/ArrayList" "DEFAULTCAPACITY_EMPTY_ELEMENTDATA" "[Ljava/lang/Object;" (.ref w_D)) (V_D : Arv Z Z.heap w_D k_D (.object "java/lang/Object") (0 : Int32) [] .null) (E_b : Exa Z h0 b "java/lang/Long") :
    MetFree l (⟨"java/util/ArrayList", "add", "(Ljava/lang/Object;[Ljava/lang/Object;I)V"⟩ : MethodName) (head1 (Jvm.Cond.code (⟨"java/util/ArrayList", "add", "(Ljava/lang/Object;[Ljava/lang/Object;I)V"⟩ : MethodName) jdk_38_method_24_code 4 none :: ws) ({ frames := 3, cells := 1, slots := 10, locals := 41 } : Room)) (fun zz U => zz = #[(.ref a), (.ref b), (.ref w_D), (.int (0 : Int32))] ∧ Z.Warmed39 U.vm ∧ U.heap = h0) (fun _ _ _ _ _ => True) (fun _ U zo U' => ∃ v L, zo = .returned v ∧ own_Q_add3a Z a b w_D k_D mc h0 n0 v U'.heap L ∧ FrameEnd U zo U' L ({ frames := 3, cells := 1, slots := 10, locals := 41 } : Room).cells ({ frames := 3, cells := 1, slots := 10, locals := 41 } : Room).slots) := by
  refine MetFree.of_bodySF (plainFor_of_name own_pn3) hisR ?_
  intro p e s m args below meth c s₁ Bd hml0 hP hK
  obtain ⟨rfl, hZ, hh⟩ := hP
  have hx := Bd.exec
  have hby := Bd.bytes
  have hml : c.maxLocals = 4 := hml0
  have hown : s.vm.findClass "java/util/ArrayList" = some m.cls := findClass_of_methodNamed Bd.named
  have hnm := (name_of_methodNamed Bd.named Bd.method).1
  have X0 : Stand p l e ({ frames := 3, cells := 1, slots := 10, locals := 41 } : Room) s m #[(.ref a), (.ref b), (.ref w_D), (.int (0 : Int32))] below meth c s₁ [] 0 0 := Stand.of_body Bd
  have e0 : s₁.heap = h0 := by rw [← hh, Bd.state]; rfl
  have N0 := Fr.nil n0
  show own_Go p e below (own_K s (own_Q_add3a Z a b w_D k_D mc h0 n0) ({ frames := 3, cells := 1, slots := 10, locals := 41 } : Room).cells ({ frames := 3, cells := 1, slots := 10, locals := 41 } : Room).slots) s₁ (entryFrame m #[(.ref a), (.ref b), (.ref w_D), (.int (0 : Int32))] 4)
  rw [own_ef_add3a m a b w_D (0 : Int32)]
  show own_Go p e below _ s₁ (mkF m 0 #[rv a, rv b, rv w_D, iv 0] [])
  have K0 : Keep h0 h0 [a] := Keep.refl _ _
  refine own_st (fun _ k => XS.iloadN X0.here hx rfl (hb hby own_di_0) rfl k) ?_
  show own_Go p e below _ s₁ (mkF m 1 #[rv a, rv b, rv w_D, iv 0] [(.int 0)])
  refine own_st (fun _ k => XS.aloadN X0.here hx rfl (hb hby own_di_1) rfl rfl k) ?_
  show own_Go p e below _ s₁ (mkF m 2 #[rv a, rv b, rv w_D, iv 0] [(.ref w_D), (.int 0)])
  refine own_st (fun _ k => own_len X0 hx hZ e0 (V_D.ext O0.2) rfl rfl (hb hby own_di_2) k) ?_
  show own_Go p e below _ s₁ (mkF m 3 #[rv a, rv b, rv w_D, iv 0] [(.int 0), (.int 0)])
  refine own_st (fun _ k => XS.icmpNo X0.here hx rfl (hb hby own_di_3) rfl (XT.ii_ne_f rfl) k) ?_
  show own_Go p e below _ s₁ (mkF m 6 #[rv a, rv b, rv w_D, iv 0] [])
  refine own_st (fun _ k => XS.aloadN X0.here hx rfl (hb hby own_di_6) rfl rfl k) ?_
  show own_Go p e below _ s₁ (mkF m 7 #[rv a, rv b, rv w_D, iv 0] [(.ref a)])
  obtain ⟨cq1, q1, q1'⟩ := E_a.cell
  obtain ⟨_, _, ⟨T1, L1, k1, n1⟩, -, X1, ⟨Lc1, hQ1, l1, y1, z1⟩, st1⟩ := X0.privateBack hx (y := (⟨"java/util/ArrayList", "grow", "()[Ljava/lang/Object;"⟩ : MethodName)) hown (mvT hZ (hw _ (List.mem_of_getElem? (i := 100) rfl))) (mvT hZ (hw _ (List.mem_of_getElem? (i := 101) rfl))) (mvT hZ (hw _ (List.mem_of_getElem? (i := 103) rfl))) (Cond.privateMethod_at (mvP hZ (hw _ (List.mem_of_getElem? (i := 102) rfl)) (args := #[]))) (mvT hZ (hw _ (List.mem_of_getElem? (i := 104) rfl))) (by decide) (backOf (W := 0) (own_rm_grow0 l Z a0 hw [] a w_D k_D mc h0 n0 Z0 E_a F_m F_e F_s g_a O0 S_D V_D) hZ (hw _ (List.mem_of_getElem? (i := 104) rfl)) (hw _ (List.mem_of_getElem? (i := 2) rfl)) (by decide) (by decide)) (g := (mkF m 7 #[rv a, rv b, rv w_D, iv 0] [(.ref a)])) rfl (by rw [hml]; rfl) (Steps.refl _) (a := a) (by rw [e0]; exact q1) q1' (argsL := []) (rest := []) (lenOf own_pd4 rfl) rfl (by show 2 * 0 + _ ≤ _; exact Nat.le_of_eq rfl) (hb hby own_di_7) (fun _ _ => ⟨rfl, e0, (by decide : 0 + 1 ≤ _), (by decide : 0 + 10 ≤ _)⟩)
  dsimp only [Pt.U, Pt.locs, Pt.cells, Pt.slots] at X1 l1 y1 z1 st1 hQ1
  subst l1 y1 z1
  obtain ⟨d1, k_d1, rfl, N1, KC1, Fm1, Fe1, Fs1, Vd1, Ov_d1, sz_d1⟩ := hQ1
  have M1 := Fr.app N0 N1
  refine own_tr st1 ?_
  show own_Go p e below _ T1 (mkF m 10 #[rv a, rv b, rv w_D, iv 0] [(.ref d1)])
  have O1 := O0.keep KC1 (allS g_a all0)
  have E1_a := E_a.keep KC1
  have E1_b := E_b.keep KC1
  have Z1 : n0 ≤ T1.heap.size := Nat.le_trans Z0 KC1.1
  have KK1 : Keep h0 T1.heap [a] := K0.trans KC1 (allS (Or.inl (List.mem_of_getElem? (i := 0) rfl)) all0)
  have g_d1 : n0 ≤ d1 := Nat.le_trans Z0 sz_d1
  have ne_a_d1 : a ≠ d1 := Nat.ne_of_lt (Nat.lt_of_lt_of_le E_a.lt sz_d1)
  refine own_st (fun _ k => XS.astoreN X1.here hx rfl (hb hby own_di_10) rfl rfl (l' := #[rv a, rv b, rv d1, iv 0]) rfl k) ?_
  show own_Go p e below _ T1 (mkF m 11 #[rv a, rv b, rv d1, iv 0] [])
  refine own_st (fun _ k => XS.aloadN X1.here hx rfl (hb hby own_di_11) rfl rfl k) ?_
  show own_Go p e below _ T1 (mkF m 12 #[rv a, rv b, rv d1, iv 0] [(.ref d1)])
  refine own_st (fun _ k => XS.iloadN X1.here hx rfl (hb hby own_di_12) rfl k) ?_
  show own_Go p e below _ T1 (mkF m 13 #[rv a, rv b, rv d1, iv 0] [(.int 0), (.ref d1)])
  refine own_st (fun _ k => XS.aloadN X1.here hx rfl (hb hby own_di_13) rfl rfl k) ?_
  show own_Go p e below _ T1 (mkF m 14 #[rv a, rv b, rv d1, iv 0] [(.ref b), (.int 0), (.ref d1)])
  obtain ⟨T2, h2, X2, e2, W2, V2, st2⟩ := own_stR X1 hx hZ rfl Vd1 Ov_d1 (Ins.of_exa E1_b (hw _ (List.mem_of_getElem? (i := 116) rfl))) (j := (0 : Int32)) ⟨by decide, by decide⟩ 0 rfl (Nat.le_of_ble_eq_true rfl) (g := (mkF m 14 #[rv a, rv b, rv d1, iv 0] [(.ref b), (.int 0), (.ref d1)])) rfl rfl (hb hby own_di_14)
  have V2_d1 : Arv Z h2 d1 k_d1 ((.object "java/lang/Object")) (10 : Int32) [(.ref b), .null, .null, .null, .null, .null, .null, .null, .null, .null] .null := V2
  have O2 := O1.wr W2 g_d1
  have E2_a := E1_a.wr W2
  have E2_b := E1_b.wr W2
  have F2_modCount_a := Fm1.other W2 (Or.inl ne_a_d1)
  have F2_elementData_a := Fe1.other W2 (Or.inl ne_a_d1)
  have F2_size_a := Fs1.other W2 (Or.inl ne_a_d1)
  have Z2 : n0 ≤ h2.size := by rw [W2.size]; exact Z1
  have K2 : Keep h0 h2 [a] := KK1.wr W2 (Or.inr sz_d1)
  have N2 := Fr.snoc X2 M1 g_d1
  refine own_st st2 ?_
  show own_Go p e below _ T2 (mkF m 15 #[rv a, rv b, rv d1, iv 0] [])
  refine own_st (fun _ k => XS.aloadN X2.here hx rfl (hb hby own_di_15) rfl rfl k) ?_
  show own_Go p e below _ T2 (mkF m 16 #[rv a, rv b, rv d1, iv 0] [(.ref a)])
  refine own_st (fun _ k => XS.iloadN X2.here hx rfl (hb hby own_di_16) rfl k) ?_
  show own_Go p e below _ T2 (mkF m 17 #[rv a, rv b, rv d1, iv 0] [(.int 0), (.ref a)])
  refine own_st (fun _ k => XT.iconstV X2.here hx rfl (1 : Int32) (hb hby own_di_17) (by decide) k) ?_
  show own_Go p e below _ T2 (mkF m 18 #[rv a, rv b, rv d1, iv 0] [(.int 1), (.int 0), (.ref a)])
  refine own_st (fun _ k => XS.iadd X2.here hx rfl (hb hby own_di_18) rfl k) ?_
  show own_Go p e below _ T2 (mkF m 19 #[rv a, rv b, rv d1, iv 0] [(.int (0 + 1)), (.ref a)])
  rw [show (0 : Int32) + (1 : Int32) = (1 : Int32) from by decide]
  show own_Go p e below _ T2 (mkF m 19 #[rv a, rv b, rv d1, iv 0] [(.int 1), (.ref a)])
  obtain ⟨T3, h3, X3, e3, W3, st3⟩ := putF X2 hx hZ hown (host := "") (Or.inl (hw _ (List.mem_of_getElem? (i := 58) rfl))) Via.refl e2 F2_size_a E2_a (Or.inl (hw _ (List.mem_of_getElem? (i := 59) rfl))) (hw _ (List.mem_of_getElem? (i := 1) rfl)) (ty := .int) (by decide) rfl rfl (g := (mkF m 19 #[rv a, rv b, rv d1, iv 0] [(.int 1), (.ref a)])) rfl rfl (hb hby own_di_19)
  have O3 := O2.wr W3 g_a
  have V3_d1 := V2_d1.other W3 ne_a_d1.symm
  have E3_a := E2_a.wr W3
  have E3_b := E2_b.wr W3
  have F3_modCount_a := F2_modCount_a.other W3 (Or.inr (slot_ne (Or.inl (hw _ (List.mem_of_getElem? (i := 22) rfl))) (Or.inl (hw _ (List.mem_of_getElem? (i := 59) rfl))) (by decide) (t := .int) (t' := .int) (by decide) (by decide)))
  have F3_elementData_a := F2_elementData_a.other W3 (Or.inr (slot_ne (Or.inl (hw _ (List.mem_of_getElem? (i := 25) rfl))) (Or.inl (hw _ (List.mem_of_getElem? (i := 59) rfl))) (by decide) (t := .array (.object "java/lang/Object")) (t' := .int) (by decide) (by decide)))
  have F3_size_a := F2_size_a.same W3
  have Z3 : n0 ≤ h3.size := by rw [W3.size]; exact Z2
  have K3 : Keep h0 h3 [a] := K2.wr W3 (Or.inl (List.mem_of_getElem? (i := 0) rfl))
  have N3 := Fr.snoc X3 N2 g_a
  refine own_st st3 ?_
  show own_Go p e below _ T3 (mkF m 22 #[rv a, rv b, rv d1, iv 0] [])
  refine own_ret X3 hx Bd.notSynchronized Bd.returns (hb hby own_di_22) (by decide) (by decide) ?_
  rw [e3]
  exact ⟨d1, k_d1, rfl, N3, K3, F3_modCount_a, F3_elementData_a, F3_size_a, V3_d1, Ov_d1, sz_d1⟩
theorem own_ef_add1a (m : MethodId) (x0 : Addr) (x1 : Addr) : entryFrame m #[(.ref x0), (.ref x1)] 2 = mkF m 0 #[.val (.ref x0), .val (.ref x1)] [] := by first | (simp [entryFrame, mkF, argsToLocals, Value.category]; done) | rfl
def own_Q_add1a (Z : State) (a : Addr) (b : Addr) (w_D : Addr) (k_D : ClassId) (mc : Int32) (h0 : Heap) (n0 : Nat) (v : Option Value) (h : Heap) (L : List Loc) : Prop := ∃ d kd, v = some (.int 1) ∧ Fr n0 L ∧ Keep h0 h [a] ∧ Fld Z h a "java/util/AbstractList" "modCount" "I" (.int (mc + (1 : Int32))) ∧ Fld Z h a "java/util/ArrayList" "elementData" "[Ljava/lang/Object;" (.ref d) ∧ Fld Z h a "java/util/ArrayList" "size" "I" (.int (1 : Int32)) ∧ Arv Z h d kd (.object "java/lang/Object") (10 : Int32) [(.ref b), .null, .null, .null, .null, .null, .null, .null, .null, .null] .null ∧ Ovr Z kd "java/lang/Object" ∧ h0.size ≤ d
set_option maxRecDepth 65536 in
set_option maxHeartbeats 40000000 in
theorem own_rm_add1a (l : Launch) (Z : State) (a0 : Array Value) (hw : ∀ d ∈ tables_1, d.before a0 Z = true) (ws : List Jvm.Cond) (a : Addr) (b : Addr) (w_D : Addr) (k_D : ClassId) (mc : Int32) (h0 : Heap) (n0 : Nat) (Z0 : n0 ≤ h0.size) (E_a : Exa Z h0 a "java/util/ArrayList") (F_m : Fld Z h0 a "java/util/AbstractList" "modCount" "I" (.int mc)) (F_e : Fld Z h0 a "java/util/ArrayList" "elementData" "[Ljava/lang/Object;" (.ref w_D)) (F_s : Fld Z h0 a "java/util/ArrayList" "size" "I" (.int (0 : Int32))) (g_a : n0 ≤ a) (O0 : Old Z n0 h0) (S_D : Sta Z Z.heap "java/util/ArrayList" "DEFAULTCAPACITY_EMPTY_ELEMENTDATA" "[Ljava/lang/Object;" (.ref w_D)) (V_D : Arv Z Z.heap w_D k_D (.object "java/lang/Object") (0 : Int32) [] .null) (E_b : Exa Z h0 b "java/lang/Long") :
    MetFree l (⟨"java/util/ArrayList", "add", "(Ljava/lang/Object;)Z"⟩ : MethodName) (head1 (Jvm.Cond.code (⟨"java/util/ArrayList", "add", "(Ljava/lang/Object;)Z"⟩ : MethodName) jdk_38_method_25_code 2 (some .boolean) :: ws) ({ frames := 4, cells := 1, slots := 10, locals := 56 } : Room)) (fun zz U => zz = #[(.ref a), (.ref b)] ∧ Z.Warmed39 U.vm ∧ U.heap = h0) (fun _ _ _ _ _ => True) (fun _ U zo U' => ∃ v L, zo = .returned v ∧ own_Q_add1a Z a b w_D k_D mc h0 n0 v U'.heap L ∧ FrameEnd U zo U' L ({ frames := 4, cells := 1, slots := 10, locals := 56 } : Room).cells ({ frames := 4, cells := 1, slots := 10, locals := 56 } : Room).slots) := by
  refine MetFree.of_bodySF (plainFor_of_name own_pn3) hisR ?_
  intro p e s m args below meth c s₁ Bd hml0 hP hK
  obtain ⟨rfl, hZ, hh⟩ := hP
  have hx := Bd.exec
  have hby := Bd.bytes
  have hml : c.maxLocals = 2 := hml0
  have hown : s.vm.findClass "java/util/ArrayList" = some m.cls := findClass_of_methodNamed Bd.named
  have hnm := (name_of_methodNamed Bd.named Bd.method).1
  have X0 : Stand p l e ({ frames := 4, cells := 1, slots := 10, locals := 56 } : Room) s m #[(.ref a), (.ref b)] below meth c s₁ [] 0 0 := Stand.of_body Bd
  have e0 : s₁.heap = h0 := by rw [← hh, Bd.state]; rfl
  have N0 := Fr.nil n0
  show own_Go p e below (own_K s (own_Q_add1a Z a b w_D k_D mc h0 n0) ({ frames := 4, cells := 1, slots := 10, locals := 56 } : Room).cells ({ frames := 4, cells := 1, slots := 10, locals := 56 } : Room).slots) s₁ (entryFrame m #[(.ref a), (.ref b)] 2)
  rw [own_ef_add1a m a b]
  show own_Go p e below _ s₁ (mkF m 0 #[rv a, rv b] [])
  have K0 : Keep h0 h0 [a] := Keep.refl _ _
  refine own_st (fun _ k => XS.aloadN X0.here hx rfl (hb hby own_dh_0) rfl rfl k) ?_
  show own_Go p e below _ s₁ (mkF m 1 #[rv a, rv b] [(.ref a)])
  refine own_st (fun _ k => XS.dup X0.here hx rfl (hb hby own_dh_1) rfl rfl k) ?_
  show own_Go p e below _ s₁ (mkF m 2 #[rv a, rv b] [(.ref a), (.ref a)])
  obtain ⟨T1, X1, e1, st1⟩ := getF X0 hx hZ hown (host := "") (Or.inl (hw _ (List.mem_of_getElem? (i := 93) rfl))) (Via.of (hw _ (List.mem_of_getElem? (i := 94) rfl))) e0 F_m (g := (mkF m 2 #[rv a, rv b] [(.ref a), (.ref a)])) rfl rfl (hb hby own_dh_2)
  refine own_st st1 ?_
  show own_Go p e below _ T1 (mkF m 5 #[rv a, rv b] [(.int mc), (.ref a)])
  refine own_st (fun _ k => XT.iconstV X1.here hx rfl (1 : Int32) (hb hby own_dh_5) (by decide) k) ?_
  show own_Go p e below _ T1 (mkF m 6 #[rv a, rv b] [(.int 1), (.int mc), (.ref a)])
  refine own_st (fun _ k => XS.iadd X1.here hx rfl (hb hby own_dh_6) rfl k) ?_
  show own_Go p e below _ T1 (mkF m 7 #[rv a, rv b] [(.int (mc + 1)), (.ref a)])
  obtain ⟨T2, h2, X2, e2, W2, st2⟩ := putF X1 hx hZ hown (host := "") (Or.inl (hw _ (List.mem_of_getElem? (i := 93) rfl))) (Via.of (hw _ (List.mem_of_getElem? (i := 94) rfl))) e1 F_m E_a (Or.inl (hw _ (List.mem_of_getElem? (i := 22) rfl))) (hw _ (List.mem_of_getElem? (i := 1) rfl)) (ty := .int) (by decide) rfl rfl (g := (mkF m 7 #[rv a, rv b] [(.int (mc + 1)), (.ref a)])) rfl rfl (hb hby own_dh_7)
  have O2 := O0.wr W2 g_a
  have E2_a := E_a.wr W2
  have E2_b := E_b.wr W2
  have F2_modCount_a := F_m.same W2
  have F2_elementData_a := F_e.other W2 (Or.inr (slot_ne (Or.inl (hw _ (List.mem_of_getElem? (i := 25) rfl))) (Or.inl (hw _ (List.mem_of_getElem? (i := 22) rfl))) (by decide) (t := .array (.object "java/lang/Object")) (t' := .int) (by decide) (by decide)))
  have F2_size_a := F_s.other W2 (Or.inr (slot_ne (Or.inl (hw _ (List.mem_of_getElem? (i := 59) rfl))) (Or.inl (hw _ (List.mem_of_getElem? (i := 22) rfl))) (by decide) (t := .int) (t' := .int) (by decide) (by decide)))
  have Z2 : n0 ≤ h2.size := by rw [W2.size]; exact Z0
  have K2 : Keep h0 h2 [a] := K0.wr W2 (Or.inl (List.mem_of_getElem? (i := 0) rfl))
  have N2 := Fr.snoc X2 N0 g_a
  refine own_st st2 ?_
  show own_Go p e below _ T2 (mkF m 10 #[rv a, rv b] [])
  refine own_st (fun _ k => XS.aloadN X2.here hx rfl (hb hby own_dh_10) rfl rfl k) ?_
  show own_Go p e below _ T2 (mkF m 11 #[rv a, rv b] [(.ref a)])
  refine own_st (fun _ k => XS.aloadN X2.here hx rfl (hb hby own_dh_11) rfl rfl k) ?_
  show own_Go p e below _ T2 (mkF m 12 #[rv a, rv b] [(.ref b), (.ref a)])
  refine own_st (fun _ k => XS.aloadN X2.here hx rfl (hb hby own_dh_12) rfl rfl k) ?_
  show own_Go p e below _ T2 (mkF m 13 #[rv a, rv b] [(.ref a), (.ref b), (.ref a)])
  obtain ⟨T3, X3, e3, st3⟩ := getF X2 hx hZ hown (host := "") (Or.inl (hw _ (List.mem_of_getElem? (i := 24) rfl))) Via.refl e2 F2_elementData_a (g := (mkF m 13 #[rv a, rv b] [(.ref a), (.ref b), (.ref a)])) rfl rfl (hb hby own_dh_13)
  refine own_st st3 ?_
  show own_Go p e below _ T3 (mkF m 16 #[rv a, rv b] [(.ref w_D), (.ref b), (.ref a)])
  refine own_st (fun _ k => XS.aloadN X3.here hx rfl (hb hby own_dh_16) rfl rfl k) ?_
  show own_Go p e below _ T3 (mkF m 17 #[rv a, rv b] [(.ref a), (.ref w_D), (.ref b), (.ref a)])
  obtain ⟨T4, X4, e4, st4⟩ := getF X3 hx hZ hown (host := "") (Or.inl (hw _ (List.mem_of_getElem? (i := 58) rfl))) Via.refl e3 F2_size_a (g := (mkF m 17 #[rv a, rv b] [(.ref a), (.ref w_D), (.ref b), (.ref a)])) rfl rfl (hb hby own_dh_17)
  refine own_st st4 ?_
  show own_Go p e below _ T4 (mkF m 20 #[rv a, rv b] [(.int 0), (.ref w_D), (.ref b), (.ref a)])
  obtain ⟨cq5, q5, q5'⟩ := E2_a.cell
  obtain ⟨_, _, ⟨T5, L5, k5, n5⟩, -, X5, ⟨Lc5, hQ5, l5, y5, z5⟩, st5⟩ := X4.privateBack hx (y := (⟨"java/util/ArrayList", "add", "(Ljava/lang/Object;[Ljava/lang/Object;I)V"⟩ : MethodName)) hown (mvT hZ (hw _ (List.mem_of_getElem? (i := 95) rfl))) (mvT hZ (hw _ (List.mem_of_getElem? (i := 96) rfl))) (mvT hZ (hw _ (List.mem_of_getElem? (i := 98) rfl))) (Cond.privateMethod_at (mvP hZ (hw _ (List.mem_of_getElem? (i := 97) rfl)) (args := #[]))) (mvT hZ (hw _ (List.mem_of_getElem? (i := 99) rfl))) (by decide) (backOf (W := 0) (own_rm_add3a l Z a0 hw [] a b w_D k_D (mc + (1 : Int32)) h2 n0 Z2 E2_a F2_modCount_a F2_elementData_a F2_size_a g_a O2 S_D V_D E2_b) hZ (hw _ (List.mem_of_getElem? (i := 99) rfl)) (hw _ (List.mem_of_getElem? (i := 2) rfl)) (by decide) (by decide)) (g := (mkF m 20 #[rv a, rv b] [(.int 0), (.ref w_D), (.ref b), (.ref a)])) rfl (by rw [hml]; rfl) (Steps.refl _) (a := a) (by rw [e4]; exact q5) q5' (argsL := [(.ref b), (.ref w_D), (.int (0 : Int32))]) (rest := []) (lenOf own_pd5 rfl) rfl (by show 2 * 0 + _ ≤ _; exact Nat.le_of_eq rfl) (hb hby own_dh_20) (fun _ _ => ⟨rfl, e4, (by decide : 0 + 1 ≤ _), (by decide : 0 + 10 ≤ _)⟩)
  dsimp only [Pt.U, Pt.locs, Pt.cells, Pt.slots] at X5 l5 y5 z5 st5 hQ5
  subst l5 y5 z5
  obtain ⟨d1, k_d1, rfl, N5, KC5, Fm5, Fe5, Fs5, Vd5, Ov_d1, sz_d1⟩ := hQ5
  have M5 := Fr.app N2 N5
  refine own_tr st5 ?_
  show own_Go p e below _ T5 (mkF m 23 #[rv a, rv b] [])
  have O5 := O2.keep KC5 (allS g_a all0)
  have E5_a := E2_a.keep KC5
  have E5_b := E2_b.keep KC5
  have Z5 : n0 ≤ T5.heap.size := Nat.le_trans Z2 KC5.1
  have KK5 : Keep h0 T5.heap [a] := K2.trans KC5 (allS (Or.inl (List.mem_of_getElem? (i := 0) rfl)) all0)
  refine own_st (fun _ k => XT.iconstV X5.here hx rfl (1 : Int32) (hb hby own_dh_23) (by decide) k) ?_
  show own_Go p e below _ T5 (mkF m 24 #[rv a, rv b] [(.int 1)])
  refine own_retN X5 hx Bd.notSynchronized (t := .boolean) Bd.returns (by simp) (hb hby own_dh_24) (by decide) (by decide) ?_
  exact ⟨d1, k_d1, rfl, M5, KK5, Fm5, Fe5, Fs5, Vd5, Ov_d1, Nat.le_trans K2.1 sz_d1⟩
theorem own_ef_add3m1 (m : MethodId) (x0 : Addr) (x1 : Addr) (x2 : Addr) (x3 : Int32) : entryFrame m #[(.ref x0), (.ref x1), (.ref x2), (.int x3)] 4 = mkF m 0 #[.val (.ref x0), .val (.ref x1), .val (.ref x2), .val (.int x3)] [] := by first | (simp [entryFrame, mkF, argsToLocals, Value.category]; done) | rfl
def own_Q_add3m1 (Z : State) (a : Addr) (b : Addr) (d : Addr) (kd : ClassId) (mc : Int32) (u0 : Addr) (h0 : Heap) (n0 : Nat) (v : Option Value) (h : Heap) (L : List Loc) : Prop := v = none ∧ Fr n0 L ∧ Keep h0 h [a, d] ∧ Fld Z h a "java/util/AbstractList" "modCount" "I" (.int mc) ∧ Fld Z h a "java/util/ArrayList" "elementData" "[Ljava/lang/Object;" (.ref d) ∧ Fld Z h a "java/util/ArrayList" "size" "I" (.int (2 : Int32)) ∧ Arv Z h d kd (.object "java/lang/Object") (10 : Int32) [(.ref u0), (.ref b), .null, .null, .null, .null, .null, .null, .null, .null] .null
set_option maxRecDepth 65536 in
set_option maxHeartbeats 40000000 in
theorem own_rm_add3m1 (l : Launch) (Z : State) (a0 : Array Value) (hw : ∀ d ∈ tables_1, d.before a0 Z = true) (ws : List Jvm.Cond) (a : Addr) (b : Addr) (d : Addr) (kd : ClassId) (mc : Int32) (u0 : Addr) (h0 : Heap) (n0 : Nat) (Z0 : n0 ≤ h0.size) (E_a : Exa Z h0 a "java/util/ArrayList") (F_m : Fld Z h0 a "java/util/AbstractList" "modCount" "I" (.int mc)) (F_e : Fld Z h0 a "java/util/ArrayList" "elementData" "[Ljava/lang/Object;" (.ref d)) (F_s : Fld Z h0 a "java/util/ArrayList" "size" "I" (.int (1 : Int32))) (g_a : n0 ≤ a) (E_b : Exa Z h0 b "java/lang/Long") (V_d : Arv Z h0 d kd (.object "java/lang/Object") (10 : Int32) [(.ref u0), .null, .null, .null, .null, .null, .null, .null, .null, .null] .null) (Ov_d : Ovr Z kd "java/lang/Object") (g_d : n0 ≤ d) (ne_a_d : a ≠ d) :
    MetFree l (⟨"java/util/ArrayList", "add", "(Ljava/lang/Object;[Ljava/lang/Object;I)V"⟩ : MethodName) (head1 (Jvm.Cond.code (⟨"java/util/ArrayList", "add", "(Ljava/lang/Object;[Ljava/lang/Object;I)V"⟩ : MethodName) jdk_38_method_24_code 4 none :: ws) ({ frames := 0, cells := 0, slots := 0, locals := 0 } : Room)) (fun zz U => zz = #[(.ref a), (.ref b), (.ref d), (.int (1 : Int32))] ∧ Z.Warmed39 U.vm ∧ U.heap = h0) (fun _ _ _ _ _ => True) (fun _ U zo U' => ∃ v L, zo = .returned v ∧ own_Q_add3m1 Z a b d kd mc u0 h0 n0 v U'.heap L ∧ FrameEnd U zo U' L ({ frames := 0, cells := 0, slots := 0, locals := 0 } : Room).cells ({ frames := 0, cells := 0, slots := 0, locals := 0 } : Room).slots) := by
  refine MetFree.of_bodySF (plainFor_of_name own_pn3) hisR ?_
  intro p e s m args below meth c s₁ Bd hml0 hP hK
  obtain ⟨rfl, hZ, hh⟩ := hP
  have hx := Bd.exec
  have hby := Bd.bytes
  have hml : c.maxLocals = 4 := hml0
  have hown : s.vm.findClass "java/util/ArrayList" = some m.cls := findClass_of_methodNamed Bd.named
  have hnm := (name_of_methodNamed Bd.named Bd.method).1
  have X0 : Stand p l e ({ frames := 0, cells := 0, slots := 0, locals := 0 } : Room) s m #[(.ref a), (.ref b), (.ref d), (.int (1 : Int32))] below meth c s₁ [] 0 0 := Stand.of_body Bd
  have e0 : s₁.heap = h0 := by rw [← hh, Bd.state]; rfl
  have N0 := Fr.nil n0
  show own_Go p e below (own_K s (own_Q_add3m1 Z a b d kd mc u0 h0 n0) ({ frames := 0, cells := 0, slots := 0, locals := 0 } : Room).cells ({ frames := 0, cells := 0, slots := 0, locals := 0 } : Room).slots) s₁ (entryFrame m #[(.ref a), (.ref b), (.ref d), (.int (1 : Int32))] 4)
  rw [own_ef_add3m1 m a b d (1 : Int32)]
  show own_Go p e below _ s₁ (mkF m 0 #[rv a, rv b, rv d, iv 1] [])
  have K0 : Keep h0 h0 [a, d] := Keep.refl _ _
  refine own_st (fun _ k => XS.iloadN X0.here hx rfl (hb hby own_di_0) rfl k) ?_
  show own_Go p e below _ s₁ (mkF m 1 #[rv a, rv b, rv d, iv 1] [(.int 1)])
  refine own_st (fun _ k => XS.aloadN X0.here hx rfl (hb hby own_di_1) rfl rfl k) ?_
  show own_Go p e below _ s₁ (mkF m 2 #[rv a, rv b, rv d, iv 1] [(.ref d), (.int 1)])
  refine own_st (fun _ k => own_len X0 hx hZ e0 V_d rfl rfl (hb hby own_di_2) k) ?_
  show own_Go p e below _ s₁ (mkF m 3 #[rv a, rv b, rv d, iv 1] [(.int 10), (.int 1)])
  refine own_st (fun _ k => XS.icmpYes X0.here hx rfl (pc0 := 3) (pc' := 11) rfl (hb hby own_di_3) rfl (XT.ii_ne_t (by decide)) (by decide) (by decide) k) ?_
  show own_Go p e below _ s₁ (mkF m 11 #[rv a, rv b, rv d, iv 1] [])
  refine own_st (fun _ k => XS.aloadN X0.here hx rfl (hb hby own_di_11) rfl rfl k) ?_
  show own_Go p e below _ s₁ (mkF m 12 #[rv a, rv b, rv d, iv 1] [(.ref d)])
  refine own_st (fun _ k => XS.iloadN X0.here hx rfl (hb hby own_di_12) rfl k) ?_
  show own_Go p e below _ s₁ (mkF m 13 #[rv a, rv b, rv d, iv 1] [(.int 1), (.ref d)])
  refine own_st (fun _ k => XS.aloadN X0.here hx rfl (hb hby own_di_13) rfl rfl k) ?_
  show own_Go p e below _ s₁ (mkF m 14 #[rv a, rv b, rv d, iv 1] [(.ref b), (.int 1), (.ref d)])
  obtain ⟨T1, h1, X1, e1, W1, V1, st1⟩ := own_stR X0 hx hZ e0 V_d Ov_d (Ins.of_exa E_b (hw _ (List.mem_of_getElem? (i := 116) rfl))) (j := (1 : Int32)) ⟨by decide, by decide⟩ 1 rfl (Nat.le_of_ble_eq_true rfl) (g := (mkF m 14 #[rv a, rv b, rv d, iv 1] [(.ref b), (.int 1), (.ref d)])) rfl rfl (hb hby own_di_14)
  have V1_d : Arv Z h1 d kd ((.object "java/lang/Object")) (10 : Int32) [(.ref u0), (.ref b), .null, .null, .null, .null, .null, .null, .null, .null] .null := V1
  have E1_a := E_a.wr W1
  have E1_b := E_b.wr W1
  have F1_modCount_a := F_m.other W1 (Or.inl ne_a_d)
  have F1_elementData_a := F_e.other W1 (Or.inl ne_a_d)
  have F1_size_a := F_s.other W1 (Or.inl ne_a_d)
  have Z1 : n0 ≤ h1.size := by rw [W1.size]; exact Z0
  have K1 : Keep h0 h1 [a, d] := K0.wr W1 (Or.inl (List.mem_of_getElem? (i := 1) rfl))
  have N1 := Fr.snoc X1 N0 g_d
  refine own_st st1 ?_
  show own_Go p e below _ T1 (mkF m 15 #[rv a, rv b, rv d, iv 1] [])
  refine own_st (fun _ k => XS.aloadN X1.here hx rfl (hb hby own_di_15) rfl rfl k) ?_
  show own_Go p e below _ T1 (mkF m 16 #[rv a, rv b, rv d, iv 1] [(.ref a)])
  refine own_st (fun _ k => XS.iloadN X1.here hx rfl (hb hby own_di_16) rfl k) ?_
  show own_Go p e below _ T1 (mkF m 17 #[rv a, rv b, rv d, iv 1] [(.int 1), (.ref a)])
  refine own_st (fun _ k => XT.iconstV X1.here hx rfl (1 : Int32) (hb hby own_di_17) (by decide) k) ?_
  show own_Go p e below _ T1 (mkF m 18 #[rv a, rv b, rv d, iv 1] [(.int 1), (.int 1), (.ref a)])
  refine own_st (fun _ k => XS.iadd X1.here hx rfl (hb hby own_di_18) rfl k) ?_
  show own_Go p e below _ T1 (mkF m 19 #[rv a, rv b, rv d, iv 1] [(.int (1 + 1)), (.ref a)])
  rw [show (1 : Int32) + (1 : Int32) = (2 : Int32) from by decide]
  show own_Go p e below _ T1 (mkF m 19 #[rv a, rv b, rv d, iv 1] [(.int 2), (.ref a)])
  obtain ⟨T2, h2, X2, e2, W2, st2⟩ := putF X1 hx hZ hown (host := "") (Or.inl (hw _ (List.mem_of_getElem? (i := 58) rfl))) Via.refl e1 F1_size_a E1_a (Or.inl (hw _ (List.mem_of_getElem? (i := 59) rfl))) (hw _ (List.mem_of_getElem? (i := 1) rfl)) (ty := .int) (by decide) rfl rfl (g := (mkF m 19 #[rv a, rv b, rv d, iv 1] [(.int 2), (.ref a)])) rfl rfl (hb hby own_di_19)
  have V2_d := V1_d.other W2 ne_a_d.symm
  have E2_a := E1_a.wr W2
  have E2_b := E1_b.wr W2
  have F2_modCount_a := F1_modCount_a.other W2 (Or.inr (slot_ne (Or.inl (hw _ (List.mem_of_getElem? (i := 22) rfl))) (Or.inl (hw _ (List.mem_of_getElem? (i := 59) rfl))) (by decide) (t := .int) (t' := .int) (by decide) (by decide)))
  have F2_elementData_a := F1_elementData_a.other W2 (Or.inr (slot_ne (Or.inl (hw _ (List.mem_of_getElem? (i := 25) rfl))) (Or.inl (hw _ (List.mem_of_getElem? (i := 59) rfl))) (by decide) (t := .array (.object "java/lang/Object")) (t' := .int) (by decide) (by decide)))
  have F2_size_a := F1_size_a.same W2
  have Z2 : n0 ≤ h2.size := by rw [W2.size]; exact Z1
  have K2 : Keep h0 h2 [a, d] := K1.wr W2 (Or.inl (List.mem_of_getElem? (i := 0) rfl))
  have N2 := Fr.snoc X2 N1 g_a
  refine own_st st2 ?_
  show own_Go p e below _ T2 (mkF m 22 #[rv a, rv b, rv d, iv 1] [])
  refine own_ret X2 hx Bd.notSynchronized Bd.returns (hb hby own_di_22) (by decide) (by decide) ?_
  rw [e2]
  exact ⟨rfl, N2, K2, F2_modCount_a, F2_elementData_a, F2_size_a, V2_d⟩
theorem own_ef_add1m1 (m : MethodId) (x0 : Addr) (x1 : Addr) : entryFrame m #[(.ref x0), (.ref x1)] 2 = mkF m 0 #[.val (.ref x0), .val (.ref x1)] [] := by first | (simp [entryFrame, mkF, argsToLocals, Value.category]; done) | rfl
def own_Q_add1m1 (Z : State) (a : Addr) (b : Addr) (d : Addr) (kd : ClassId) (mc : Int32) (u0 : Addr) (h0 : Heap) (n0 : Nat) (v : Option Value) (h : Heap) (L : List Loc) : Prop := v = some (.int 1) ∧ Fr n0 L ∧ Keep h0 h [a, d] ∧ Fld Z h a "java/util/AbstractList" "modCount" "I" (.int (mc + (1 : Int32))) ∧ Fld Z h a "java/util/ArrayList" "elementData" "[Ljava/lang/Object;" (.ref d) ∧ Fld Z h a "java/util/ArrayList" "size" "I" (.int (2 : Int32)) ∧ Arv Z h d kd (.object "java/lang/Object") (10 : Int32) [(.ref u0), (.ref b), .null, .null, .null, .null, .null, .null, .null, .null] .null
set_option maxRecDepth 65536 in
set_option maxHeartbeats 40000000 in
theorem own_rm_add1m1 (l : Launch) (Z : State) (a0 : Array Value) (hw : ∀ d ∈ tables_1, d.before a0 Z = true) (ws : List Jvm.Cond) (a : Addr) (b : Addr) (d : Addr) (kd : ClassId) (mc : Int32) (u0 : Addr) (h0 : Heap) (n0 : Nat) (Z0 : n0 ≤ h0.size) (E_a : Exa Z h0 a "java/util/ArrayList") (F_m : Fld Z h0 a "java/util/AbstractList" "modCount" "I" (.int mc)) (F_e : Fld Z h0 a "java/util/ArrayList" "elementData" "[Ljava/lang/Object;" (.ref d)) (F_s : Fld Z h0 a "java/util/ArrayList" "size" "I" (.int (1 : Int32))) (g_a : n0 ≤ a) (E_b : Exa Z h0 b "java/lang/Long") (V_d : Arv Z h0 d kd (.object "java/lang/Object") (10 : Int32) [(.ref u0), .null, .null, .null, .null, .null, .null, .null, .null, .null] .null) (Ov_d : Ovr Z kd "java/lang/Object") (g_d : n0 ≤ d) (ne_a_d : a ≠ d) :
    MetFree l (⟨"java/util/ArrayList", "add", "(Ljava/lang/Object;)Z"⟩ : MethodName) (head1 (Jvm.Cond.code (⟨"java/util/ArrayList", "add", "(Ljava/lang/Object;)Z"⟩ : MethodName) jdk_38_method_25_code 2 (some .boolean) :: ws) ({ frames := 1, cells := 0, slots := 0, locals := 15 } : Room)) (fun zz U => zz = #[(.ref a), (.ref b)] ∧ Z.Warmed39 U.vm ∧ U.heap = h0) (fun _ _ _ _ _ => True) (fun _ U zo U' => ∃ v L, zo = .returned v ∧ own_Q_add1m1 Z a b d kd mc u0 h0 n0 v U'.heap L ∧ FrameEnd U zo U' L ({ frames := 1, cells := 0, slots := 0, locals := 15 } : Room).cells ({ frames := 1, cells := 0, slots := 0, locals := 15 } : Room).slots) := by
  refine MetFree.of_bodySF (plainFor_of_name own_pn3) hisR ?_
  intro p e s m args below meth c s₁ Bd hml0 hP hK
  obtain ⟨rfl, hZ, hh⟩ := hP
  have hx := Bd.exec
  have hby := Bd.bytes
  have hml : c.maxLocals = 2 := hml0
  have hown : s.vm.findClass "java/util/ArrayList" = some m.cls := findClass_of_methodNamed Bd.named
  have hnm := (name_of_methodNamed Bd.named Bd.method).1
  have X0 : Stand p l e ({ frames := 1, cells := 0, slots := 0, locals := 15 } : Room) s m #[(.ref a), (.ref b)] below meth c s₁ [] 0 0 := Stand.of_body Bd
  have e0 : s₁.heap = h0 := by rw [← hh, Bd.state]; rfl
  have N0 := Fr.nil n0
  show own_Go p e below (own_K s (own_Q_add1m1 Z a b d kd mc u0 h0 n0) ({ frames := 1, cells := 0, slots := 0, locals := 15 } : Room).cells ({ frames := 1, cells := 0, slots := 0, locals := 15 } : Room).slots) s₁ (entryFrame m #[(.ref a), (.ref b)] 2)
  rw [own_ef_add1m1 m a b]
  show own_Go p e below _ s₁ (mkF m 0 #[rv a, rv b] [])
  have K0 : Keep h0 h0 [a, d] := Keep.refl _ _
  refine own_st (fun _ k => XS.aloadN X0.here hx rfl (hb hby own_dh_0) rfl rfl k) ?_
  show own_Go p e below _ s₁ (mkF m 1 #[rv a, rv b] [(.ref a)])
  refine own_st (fun _ k => XS.dup X0.here hx rfl (hb hby own_dh_1) rfl rfl k) ?_
  show own_Go p e below _ s₁ (mkF m 2 #[rv a, rv b] [(.ref a), (.ref a)])
  obtain ⟨T1, X1, e1, st1⟩ := getF X0 hx hZ hown (host := "") (Or.inl (hw _ (List.mem_of_getElem? (i := 93) rfl))) (Via.of (hw _ (List.mem_of_getElem? (i := 94) rfl))) e0 F_m (g := (mkF m 2 #[rv a, rv b] [(.ref a), (.ref a)])) rfl rfl (hb hby own_dh_2)
  refine own_st st1 ?_
  show own_Go p e below _ T1 (mkF m 5 #[rv a, rv b] [(.int mc), (.ref a)])
  refine own_st (fun _ k => XT.iconstV X1.here hx rfl (1 : Int32) (hb hby own_dh_5) (by decide) k) ?_
  show own_Go p e below _ T1 (mkF m 6 #[rv a, rv b] [(.int 1), (.int mc), (.ref a)])
  refine own_st (fun _ k => XS.iadd X1.here hx rfl (hb hby own_dh_6) rfl k) ?_
  show own_Go p e below _ T1 (mkF m 7 #[rv a, rv b] [(.int (mc + 1)), (.ref a)])
  obtain ⟨T2, h2, X2, e2, W2, st2⟩ := putF X1 hx hZ hown (host := "") (Or.inl (hw _ (List.mem_of_getElem? (i := 93) rfl))) (Via.of (hw _ (List.mem_of_getElem? (i := 94) rfl))) e1 F_m E_a (Or.inl (hw _ (List.mem_of_getElem? (i := 22) rfl))) (hw _ (List.mem_of_getElem? (i := 1) rfl)) (ty := .int) (by decide) rfl rfl (g := (mkF m 7 #[rv a, rv b] [(.int (mc + 1)), (.ref a)])) rfl rfl (hb hby own_dh_7)
  have V2_d := V_d.other W2 ne_a_d.symm
  have E2_a := E_a.wr W2
  have E2_b := E_b.wr W2
  have F2_modCount_a := F_m.same W2
  have F2_elementData_a := F_e.other W2 (Or.inr (slot_ne (Or.inl (hw _ (List.mem_of_getElem? (i := 25) rfl))) (Or.inl (hw _ (List.mem_of_getElem? (i := 22) rfl))) (by decide) (t := .array (.object "java/lang/Object")) (t' := .int) (by decide) (by decide)))
  have F2_size_a := F_s.other W2 (Or.inr (slot_ne (Or.inl (hw _ (List.mem_of_getElem? (i := 59) rfl))) (Or.inl (hw _ (List.mem_of_getElem? (i := 22) rfl))) (by decide) (t := .int) (t' := .int) (by decide) (by decide)))
  have Z2 : n0 ≤ h2.size := by rw [W2.size]; exact Z0
  have K2 : Keep h0 h2 [a, d] := K0.wr W2 (Or.inl (List.mem_of_getElem? (i := 0) rfl))
  have N2 := Fr.snoc X2 N0 g_a
  refine own_st st2 ?_
  show own_Go p e below _ T2 (mkF m 10 #[rv a, rv b] [])
  refine own_st (fun _ k => XS.aloadN X2.here hx rfl (hb hby own_dh_10) rfl rfl k) ?_
  show own_Go p e below _ T2 (mkF m 11 #[rv a, rv b] [(.ref a)])
  refine own_st (fun _ k => XS.aloadN X2.here hx rfl (hb hby own_dh_11) rfl rfl k) ?_
  show own_Go p e below _ T2 (mkF m 12 #[rv a, rv b] [(.ref b), (.ref a)])
  refine own_st (fun _ k => XS.aloadN X2.here hx rfl (hb hby own_dh_12) rfl rfl k) ?_
  show own_Go p e below _ T2 (mkF m 13 #[rv a, rv b] [(.ref a), (.ref b), (.ref a)])
  obtain ⟨T3, X3, e3, st3⟩ := getF X2 hx hZ hown (host := "") (Or.inl (hw _ (List.mem_of_getElem? (i := 24) rfl))) Via.refl e2 F2_elementData_a (g := (mkF m 13 #[rv a, rv b] [(.ref a), (.ref b), (.ref a)])) rfl rfl (hb hby own_dh_13)
  refine own_st st3 ?_
  show own_Go p e below _ T3 (mkF m 16 #[rv a, rv b] [(.ref d), (.ref b), (.ref a)])
  refine own_st (fun _ k => XS.aloadN X3.here hx rfl (hb hby own_dh_16) rfl rfl k) ?_
  show own_Go p e below _ T3 (mkF m 17 #[rv a, rv b] [(.ref a), (.ref d), (.ref b), (.ref a)])
  obtain ⟨T4, X4, e4, st4⟩ := getF X3 hx hZ hown (host := "") (Or.inl (hw _ (List.mem_of_getElem? (i := 58) rfl))) Via.refl e3 F2_size_a (g := (mkF m 17 #[rv a, rv b] [(.ref a), (.ref d), (.ref b), (.ref a)])) rfl rfl (hb hby own_dh_17)
  refine own_st st4 ?_
  show own_Go p e below _ T4 (mkF m 20 #[rv a, rv b] [(.int 1), (.ref d), (.ref b), (.ref a)])
  obtain ⟨cq5, q5, q5'⟩ := E2_a.cell
  obtain ⟨_, _, ⟨T5, L5, k5, n5⟩, -, X5, ⟨Lc5, hQ5, l5, y5, z5⟩, st5⟩ := X4.privateBack hx (y := (⟨"java/util/ArrayList", "add", "(Ljava/lang/Object;[Ljava/lang/Object;I)V"⟩ : MethodName)) hown (mvT hZ (hw _ (List.mem_of_getElem? (i := 95) rfl))) (mvT hZ (hw _ (List.mem_of_getElem? (i := 96) rfl))) (mvT hZ (hw _ (List.mem_of_getElem? (i := 98) rfl))) (Cond.privateMethod_at (mvP hZ (hw _ (List.mem_of_getElem? (i := 97) rfl)) (args := #[]))) (mvT hZ (hw _ (List.mem_of_getElem? (i := 99) rfl))) (by decide) (backOf (W := 0) (own_rm_add3m1 l Z a0 hw [] a b d kd (mc + (1 : Int32)) u0 h2 n0 Z2 E2_a F2_modCount_a F2_elementData_a F2_size_a g_a E2_b V2_d Ov_d g_d ne_a_d) hZ (hw _ (List.mem_of_getElem? (i := 99) rfl)) (hw _ (List.mem_of_getElem? (i := 2) rfl)) (by decide) (by decide)) (g := (mkF m 20 #[rv a, rv b] [(.int 1), (.ref d), (.ref b), (.ref a)])) rfl (by rw [hml]; rfl) (Steps.refl _) (a := a) (by rw [e4]; exact q5) q5' (argsL := [(.ref b), (.ref d), (.int (1 : Int32))]) (rest := []) (lenOf own_pd5 rfl) rfl (by show 2 * 0 + _ ≤ _; exact Nat.le_of_eq rfl) (hb hby own_dh_20) (fun _ _ => ⟨rfl, e4, (by decide : 0 + 0 ≤ _), (by decide : 0 + 0 ≤ _)⟩)
  dsimp only [Pt.U, Pt.locs, Pt.cells, Pt.slots] at X5 l5 y5 z5 st5 hQ5
  subst l5 y5 z5
  obtain ⟨rfl, N5, KC5, Fm5, Fe5, Fs5, Vd5⟩ := hQ5
  have M5 := Fr.app N2 N5
  refine own_tr st5 ?_
  show own_Go p e below _ T5 (mkF m 23 #[rv a, rv b] [])
  have E5_a := E2_a.keep KC5
  have E5_b := E2_b.keep KC5
  have Z5 : n0 ≤ T5.heap.size := Nat.le_trans Z2 KC5.1
  have KK5 : Keep h0 T5.heap [a, d] := K2.trans KC5 (allS (Or.inl (List.mem_of_getElem? (i := 0) rfl)) (allS (Or.inl (List.mem_of_getElem? (i := 1) rfl)) all0))
  refine own_st (fun _ k => XT.iconstV X5.here hx rfl (1 : Int32) (hb hby own_dh_23) (by decide) k) ?_
  show own_Go p e below _ T5 (mkF m 24 #[rv a, rv b] [(.int 1)])
  refine own_retN X5 hx Bd.notSynchronized (t := .boolean) Bd.returns (by simp) (hb hby own_dh_24) (by decide) (by decide) ?_
  exact ⟨rfl, M5, KK5, Fm5, Fe5, Fs5, Vd5⟩
theorem own_ef_add3m2 (m : MethodId) (x0 : Addr) (x1 : Addr) (x2 : Addr) (x3 : Int32) : entryFrame m #[(.ref x0), (.ref x1), (.ref x2), (.int x3)] 4 = mkF m 0 #[.val (.ref x0), .val (.ref x1), .val (.ref x2), .val (.int x3)] [] := by first | (simp [entryFrame, mkF, argsToLocals, Value.category]; done) | rfl
def own_Q_add3m2 (Z : State) (a : Addr) (b : Addr) (d : Addr) (kd : ClassId) (mc : Int32) (u0 : Addr) (u1 : Addr) (h0 : Heap) (n0 : Nat) (v : Option Value) (h : Heap) (L : List Loc) : Prop := v = none ∧ Fr n0 L ∧ Keep h0 h [a, d] ∧ Fld Z h a "java/util/AbstractList" "modCount" "I" (.int mc) ∧ Fld Z h a "java/util/ArrayList" "elementData" "[Ljava/lang/Object;" (.ref d) ∧ Fld Z h a "java/util/ArrayList" "size" "I" (.int (3 : Int32)) ∧ Arv Z h d kd (.object "java/lang/Object") (10 : Int32) [(.ref u0), (.ref u1), (.ref b), .null, .null, .null, .null, .null, .null, .null] .null
set_option maxRecDepth 65536 in
set_option maxHeartbeats 40000000 in
theorem own_rm_add3m2 (l : Launch) (Z : State) (a0 : Array Value) (hw : ∀ d ∈ tables_1, d.before a0 Z = true) (ws : List Jvm.Cond) (a : Addr) (b : Addr) (d : Addr) (kd : ClassId) (mc : Int32) (u0 : Addr) (u1 : Addr) (h0 : Heap) (n0 : Nat) (Z0 : n0 ≤ h0.size) (E_a : Exa Z h0 a "java/util/ArrayList") (F_m : Fld Z h0 a "java/util/AbstractList" "modCount" "I" (.int mc)) (F_e : Fld Z h0 a "java/util/ArrayList" "elementData" "[Ljava/lang/Object;" (.ref d)) (F_s : Fld Z h0 a "java/util/ArrayList" "size" "I" (.int (2 : Int32))) (g_a : n0 ≤ a) (E_b : Exa Z h0 b "java/lang/Long") (V_d : Arv Z h0 d kd (.object "java/lang/Object") (10 : Int32) [(.ref u0), (.ref u1), .null, .null, .null, .null, .null, .null, .null, .null] .null) (Ov_d : Ovr Z kd "java/lang/Object") (g_d : n0 ≤ d) (ne_a_d : a ≠ d) :
    MetFree l (⟨"java/util/ArrayList", "add", "(Ljava/lang/Object;[Ljava/lang/Object;I)V"⟩ : MethodName) (head1 (Jvm.Cond.code (⟨"java/util/ArrayList", "add", "(Ljava/lang/Object;[Ljava/lang/Object;I)V"⟩ : MethodName) jdk_38_method_24_code 4 none :: ws) ({ frames := 0, cells := 0, slots := 0, locals := 0 } : Room)) (fun zz U => zz = #[(.ref a), (.ref b), (.ref d), (.int (2 : Int32))] ∧ Z.Warmed39 U.vm ∧ U.heap = h0) (fun _ _ _ _ _ => True) (fun _ U zo U' => ∃ v L, zo = .returned v ∧ own_Q_add3m2 Z a b d kd mc u0 u1 h0 n0 v U'.heap L ∧ FrameEnd U zo U' L ({ frames := 0, cells := 0, slots := 0, locals := 0 } : Room).cells ({ frames := 0, cells := 0, slots := 0, locals := 0 } : Room).slots) := by
  refine MetFree.of_bodySF (plainFor_of_name own_pn3) hisR ?_
  intro p e s m args below meth c s₁ Bd hml0 hP hK
  obtain ⟨rfl, hZ, hh⟩ := hP
  have hx := Bd.exec
  have hby := Bd.bytes
  have hml : c.maxLocals = 4 := hml0
  have hown : s.vm.findClass "java/util/ArrayList" = some m.cls := findClass_of_methodNamed Bd.named
  have hnm := (name_of_methodNamed Bd.named Bd.method).1
  have X0 : Stand p l e ({ frames := 0, cells := 0, slots := 0, locals := 0 } : Room) s m #[(.ref a), (.ref b), (.ref d), (.int (2 : Int32))] below meth c s₁ [] 0 0 := Stand.of_body Bd
  have e0 : s₁.heap = h0 := by rw [← hh, Bd.state]; rfl
  have N0 := Fr.nil n0
  show own_Go p e below (own_K s (own_Q_add3m2 Z a b d kd mc u0 u1 h0 n0) ({ frames := 0, cells := 0, slots := 0, locals := 0 } : Room).cells ({ frames := 0, cells := 0, slots := 0, locals := 0 } : Room).slots) s₁ (entryFrame m #[(.ref a), (.ref b), (.ref d), (.int (2 : Int32))] 4)
  rw [own_ef_add3m2 m a b d (2 : Int32)]
  show own_Go p e below _ s₁ (mkF m 0 #[rv a, rv b, rv d, iv 2] [])
  have K0 : Keep h0 h0 [a, d] := Keep.refl _ _
  refine own_st (fun _ k => XS.iloadN X0.here hx rfl (hb hby own_di_0) rfl k) ?_
  show own_Go p e below _ s₁ (mkF m 1 #[rv a, rv b, rv d, iv 2] [(.int 2)])
  refine own_st (fun _ k => XS.aloadN X0.here hx rfl (hb hby own_di_1) rfl rfl k) ?_
  show own_Go p e below _ s₁ (mkF m 2 #[rv a, rv b, rv d, iv 2] [(.ref d), (.int 2)])
  refine own_st (fun _ k => own_len X0 hx hZ e0 V_d rfl rfl (hb hby own_di_2) k) ?_
  show own_Go p e below _ s₁ (mkF m 3 #[rv a, rv b, rv d, iv 2] [(.int 10), (.int 2)])
  refine own_st (fun _ k => XS.icmpYes X0.here hx rfl (pc0 := 3) (pc' := 11) rfl (hb hby own_di_3) rfl (XT.ii_ne_t (by decide)) (by decide) (by decide) k) ?_
  show own_Go p e below _ s₁ (mkF m 11 #[rv a, rv b, rv d, iv 2] [])
  refine own_st (fun _ k => XS.aloadN X0.here hx rfl (hb hby own_di_11) rfl rfl k) ?_
  show own_Go p e below _ s₁ (mkF m 12 #[rv a, rv b, rv d, iv 2] [(.ref d)])
  refine own_st (fun _ k => XS.iloadN X0.here hx rfl (hb hby own_di_12) rfl k) ?_
  show own_Go p e below _ s₁ (mkF m 13 #[rv a, rv b, rv d, iv 2] [(.int 2), (.ref d)])
  refine own_st (fun _ k => XS.aloadN X0.here hx rfl (hb hby own_di_13) rfl rfl k) ?_
  show own_Go p e below _ s₁ (mkF m 14 #[rv a, rv b, rv d, iv 2] [(.ref b), (.int 2), (.ref d)])
  obtain ⟨T1, h1, X1, e1, W1, V1, st1⟩ := own_stR X0 hx hZ e0 V_d Ov_d (Ins.of_exa E_b (hw _ (List.mem_of_getElem? (i := 116) rfl))) (j := (2 : Int32)) ⟨by decide, by decide⟩ 2 rfl (Nat.le_of_ble_eq_true rfl) (g := (mkF m 14 #[rv a, rv b, rv d, iv 2] [(.ref b), (.int 2), (.ref d)])) rfl rfl (hb hby own_di_14)
  have V1_d : Arv Z h1 d kd ((.object "java/lang/Object")) (10 : Int32) [(.ref u0), (.ref u1), (.ref b), .null, .null, .null, .null, .null, .null, .null] .null := V1
  have E1_a := E_a.wr W1
  have E1_b := E_b.wr W1
  have F1_modCount_a := F_m.other W1 (Or.inl ne_a_d)
  have F1_elementData_a := F_e.other W1 (Or.inl ne_a_d)
  have F1_size_a := F_s.other W1 (Or.inl ne_a_d)
  have Z1 : n0 ≤ h1.size := by rw [W1.size]; exact Z0
  have K1 : Keep h0 h1 [a, d] := K0.wr W1 (Or.inl (List.mem_of_getElem? (i := 1) rfl))
  have N1 := Fr.snoc X1 N0 g_d
  refine own_st st1 ?_
  show own_Go p e below _ T1 (mkF m 15 #[rv a, rv b, rv d, iv 2] [])
  refine own_st (fun _ k => XS.aloadN X1.here hx rfl (hb hby own_di_15) rfl rfl k) ?_
  show own_Go p e below _ T1 (mkF m 16 #[rv a, rv b, rv d, iv 2] [(.ref a)])
  refine own_st (fun _ k => XS.iloadN X1.here hx rfl (hb hby own_di_16) rfl k) ?_
  show own_Go p e below _ T1 (mkF m 17 #[rv a, rv b, rv d, iv 2] [(.int 2), (.ref a)])
  refine own_st (fun _ k => XT.iconstV X1.here hx rfl (1 : Int32) (hb hby own_di_17) (by decide) k) ?_
  show own_Go p e below _ T1 (mkF m 18 #[rv a, rv b, rv d, iv 2] [(.int 1), (.int 2), (.ref a)])
  refine own_st (fun _ k => XS.iadd X1.here hx rfl (hb hby own_di_18) rfl k) ?_
  show own_Go p e below _ T1 (mkF m 19 #[rv a, rv b, rv d, iv 2] [(.int (2 + 1)), (.ref a)])
  rw [show (2 : Int32) + (1 : Int32) = (3 : Int32) from by decide]
  show own_Go p e below _ T1 (mkF m 19 #[rv a, rv b, rv d, iv 2] [(.int 3), (.ref a)])
  obtain ⟨T2, h2, X2, e2, W2, st2⟩ := putF X1 hx hZ hown (host := "") (Or.inl (hw _ (List.mem_of_getElem? (i := 58) rfl))) Via.refl e1 F1_size_a E1_a (Or.inl (hw _ (List.mem_of_getElem? (i := 59) rfl))) (hw _ (List.mem_of_getElem? (i := 1) rfl)) (ty := .int) (by decide) rfl rfl (g := (mkF m 19 #[rv a, rv b, rv d, iv 2] [(.int 3), (.ref a)])) rfl rfl (hb hby own_di_19)
  have V2_d := V1_d.other W2 ne_a_d.symm
  have E2_a := E1_a.wr W2
  have E2_b := E1_b.wr W2
  have F2_modCount_a := F1_modCount_a.other W2 (Or.inr (slot_ne (Or.inl (hw _ (List.mem_of_getElem? (i := 22) rfl))) (Or.inl (hw _ (List.mem_of_getElem? (i := 59) rfl))) (by decide) (t := .int) (t' := .int) (by decide) (by decide)))
  have F2_elementData_a := F1_elementData_a.other W2 (Or.inr (slot_ne (Or.inl (hw _ (List.mem_of_getElem? (i := 25) rfl))) (Or.inl (hw _ (List.mem_of_getElem? (i := 59) rfl))) (by decide) (t := .array (.object "java/lang/Object")) (t' := .int) (by decide) (by decide)))
  have F2_size_a := F1_size_a.same W2
  have Z2 : n0 ≤ h2.size := by rw [W2.size]; exact Z1
  have K2 : Keep h0 h2 [a, d] := K1.wr W2 (Or.inl (List.mem_of_getElem? (i := 0) rfl))
  have N2 := Fr.snoc X2 N1 g_a
  refine own_st st2 ?_
  show own_Go p e below _ T2 (mkF m 22 #[rv a, rv b, rv d, iv 2] [])
  refine own_ret X2 hx Bd.notSynchronized Bd.returns (hb hby own_di_22) (by decide) (by decide) ?_
  rw [e2]
  exact ⟨rfl, N2, K2, F2_modCount_a, F2_elementData_a, F2_size_a, V2_d⟩
theorem own_ef_add1m2 (m : MethodId) (x0 : Addr) (x1 : Addr) : entryFrame m #[(.ref x0), (.ref x1)] 2 = mkF m 0 #[.val (.ref x0), .val (.ref x1)] [] := by first | (simp [entryFrame, mkF, argsToLocals, Value.category]; done) | rfl
def own_Q_add1m2 (Z : State) (a : Addr) (b : Addr) (d : Addr) (kd : ClassId) (mc : Int32) (u0 : Addr) (u1 : Addr) (h0 : Heap) (n0 : Nat) (v : Option Value) (h : Heap) (L : List Loc) : Prop := v = some (.int 1) ∧ Fr n0 L ∧ Keep h0 h [a, d] ∧ Fld Z h a "java/util/AbstractList" "modCount" "I" (.int (mc + (1 : Int32))) ∧ Fld Z h a "java/util/ArrayList" "elementData" "[Ljava/lang/Object;" (.ref d) ∧ Fld Z h a "java/util/ArrayList" "size" "I" (.int (3 : Int32)) ∧ Arv Z h d kd (.object "java/lang/Object") (10 : Int32) [(.ref u0), (.ref u1), (.ref b), .null, .null, .null, .null, .null, .null, .null] .null
set_option maxRecDepth 65536 in
set_option maxHeartbeats 40000000 in
theorem own_rm_add1m2 (l : Launch) (Z : State) (a0 : Array Value) (hw : ∀ d ∈ tables_1, d.before a0 Z = true) (ws : List Jvm.Cond) (a : Addr) (b : Addr) (d : Addr) (kd : ClassId) (mc : Int32) (u0 : Addr) (u1 : Addr) (h0 : Heap) (n0 : Nat) (Z0 : n0 ≤ h0.size) (E_a : Exa Z h0 a "java/util/ArrayList") (F_m : Fld Z h0 a "java/util/AbstractList" "modCount" "I" (.int mc)) (F_e : Fld Z h0 a "java/util/ArrayList" "elementData" "[Ljava/lang/Object;" (.ref d)) (F_s : Fld Z h0 a "java/util/ArrayList" "size" "I" (.int (2 : Int32))) (g_a : n0 ≤ a) (E_b : Exa Z h0 b "java/lang/Long") (V_d : Arv Z h0 d kd (.object "java/lang/Object") (10 : Int32) [(.ref u0), (.ref u1), .null, .null, .null, .null, .null, .null, .null, .null] .null) (Ov_d : Ovr Z kd "java/lang/Object") (g_d : n0 ≤ d) (ne_a_d : a ≠ d) :
    MetFree l (⟨"java/util/ArrayList", "add", "(Ljava/lang/Object;)Z"⟩ : MethodName) (head1 (Jvm.Cond.code (⟨"java/util/ArrayList", "add", "(Ljava/lang/Object;)Z"⟩ : MethodName) jdk_38_method_25_code 2 (some .boolean) :: ws) ({ frames := 1, cells := 0, slots := 0, locals := 15 } : Room)) (fun zz U => zz = #[(.ref a), (.ref b)] ∧ Z.Warmed39 U.vm ∧ U.heap = h0) (fun _ _ _ _ _ => True) (fun _ U zo U' => ∃ v L, zo = .returned v ∧ own_Q_add1m2 Z a b d kd mc u0 u1 h0 n0 v U'.heap L ∧ FrameEnd U zo U' L ({ frames := 1, cells := 0, slots := 0, locals := 15 } : Room).cells ({ frames := 1, cells := 0, slots := 0, locals := 15 } : Room).slots) := by
  refine MetFree.of_bodySF (plainFor_of_name own_pn3) hisR ?_
  intro p e s m args below meth c s₁ Bd hml0 hP hK
  obtain ⟨rfl, hZ, hh⟩ := hP
  have hx := Bd.exec
  have hby := Bd.bytes
  have hml : c.maxLocals = 2 := hml0
  have hown : s.vm.findClass "java/util/ArrayList" = some m.cls := findClass_of_methodNamed Bd.named
  have hnm := (name_of_methodNamed Bd.named Bd.method).1
  have X0 : Stand p l e ({ frames := 1, cells := 0, slots := 0, locals := 15 } : Room) s m #[(.ref a), (.ref b)] below meth c s₁ [] 0 0 := Stand.of_body Bd
  have e0 : s₁.heap = h0 := by rw [← hh, Bd.state]; rfl
  have N0 := Fr.nil n0
  show own_Go p e below (own_K s (own_Q_add1m2 Z a b d kd mc u0 u1 h0 n0) ({ frames := 1, cells := 0, slots := 0, locals := 15 } : Room).cells ({ frames := 1, cells := 0, slots := 0, locals := 15 } : Room).slots) s₁ (entryFrame m #[(.ref a), (.ref b)] 2)
  rw [own_ef_add1m2 m a b]
  show own_Go p e below _ s₁ (mkF m 0 #[rv a, rv b] [])
  have K0 : Keep h0 h0 [a, d] := Keep.refl _ _
  refine own_st (fun _ k => XS.aloadN X0.here hx rfl (hb hby own_dh_0) rfl rfl k) ?_
  show own_Go p e below _ s₁ (mkF m 1 #[rv a, rv b] [(.ref a)])
  refine own_st (fun _ k => XS.dup X0.here hx rfl (hb hby own_dh_1) rfl rfl k) ?_
  show own_Go p e below _ s₁ (mkF m 2 #[rv a, rv b] [(.ref a), (.ref a)])
  obtain ⟨T1, X1, e1, st1⟩ := getF X0 hx hZ hown (host := "") (Or.inl (hw _ (List.mem_of_getElem? (i := 93) rfl))) (Via.of (hw _ (List.mem_of_getElem? (i := 94) rfl))) e0 F_m (g := (mkF m 2 #[rv a, rv b] [(.ref a), (.ref a)])) rfl rfl (hb hby own_dh_2)
  refine own_st st1 ?_
  show own_Go p e below _ T1 (mkF m 5 #[rv a, rv b] [(.int mc), (.ref a)])
  refine own_st (fun _ k => XT.iconstV X1.here hx rfl (1 : Int32) (hb hby own_dh_5) (by decide) k) ?_
  show own_Go p e below _ T1 (mkF m 6 #[rv a, rv b] [(.int 1), (.int mc), (.ref a)])
  refine own_st (fun _ k => XS.iadd X1.here hx rfl (hb hby own_dh_6) rfl k) ?_
  show own_Go p e below _ T1 (mkF m 7 #[rv a, rv b] [(.int (mc + 1)), (.ref a)])
  obtain ⟨T2, h2, X2, e2, W2, st2⟩ := putF X1 hx hZ hown (host := "") (Or.inl (hw _ (List.mem_of_getElem? (i := 93) rfl))) (Via.of (hw _ (List.mem_of_getElem? (i := 94) rfl))) e1 F_m E_a (Or.inl (hw _ (List.mem_of_getElem? (i := 22) rfl))) (hw _ (List.mem_of_getElem? (i := 1) rfl)) (ty := .int) (by decide) rfl rfl (g := (mkF m 7 #[rv a, rv b] [(.int (mc + 1)), (.ref a)])) rfl rfl (hb hby own_dh_7)
  have V2_d := V_d.other W2 ne_a_d.symm
  have E2_a := E_a.wr W2
  have E2_b := E_b.wr W2
  have F2_modCount_a := F_m.same W2
  have F2_elementData_a := F_e.other W2 (Or.inr (slot_ne (Or.inl (hw _ (List.mem_of_getElem? (i := 25) rfl))) (Or.inl (hw _ (List.mem_of_getElem? (i := 22) rfl))) (by decide) (t := .array (.object "java/lang/Object")) (t' := .int) (by decide) (by decide)))
  have F2_size_a := F_s.other W2 (Or.inr (slot_ne (Or.inl (hw _ (List.mem_of_getElem? (i := 59) rfl))) (Or.inl (hw _ (List.mem_of_getElem? (i := 22) rfl))) (by decide) (t := .int) (t' := .int) (by decide) (by decide)))
  have Z2 : n0 ≤ h2.size := by rw [W2.size]; exact Z0
  have K2 : Keep h0 h2 [a, d] := K0.wr W2 (Or.inl (List.mem_of_getElem? (i := 0) rfl))
  have N2 := Fr.snoc X2 N0 g_a
  refine own_st st2 ?_
  show own_Go p e below _ T2 (mkF m 10 #[rv a, rv b] [])
  refine own_st (fun _ k => XS.aloadN X2.here hx rfl (hb hby own_dh_10) rfl rfl k) ?_
  show own_Go p e below _ T2 (mkF m 11 #[rv a, rv b] [(.ref a)])
  refine own_st (fun _ k => XS.aloadN X2.here hx rfl (hb hby own_dh_11) rfl rfl k) ?_
  show own_Go p e below _ T2 (mkF m 12 #[rv a, rv b] [(.ref b), (.ref a)])
  refine own_st (fun _ k => XS.aloadN X2.here hx rfl (hb hby own_dh_12) rfl rfl k) ?_
  show own_Go p e below _ T2 (mkF m 13 #[rv a, rv b] [(.ref a), (.ref b), (.ref a)])
  obtain ⟨T3, X3, e3, st3⟩ := getF X2 hx hZ hown (host := "") (Or.inl (hw _ (List.mem_of_getElem? (i := 24) rfl))) Via.refl e2 F2_elementData_a (g := (mkF m 13 #[rv a, rv b] [(.ref a), (.ref b), (.ref a)])) rfl rfl (hb hby own_dh_13)
  refine own_st st3 ?_
  show own_Go p e below _ T3 (mkF m 16 #[rv a, rv b] [(.ref d), (.ref b), (.ref a)])
  refine own_st (fun _ k => XS.aloadN X3.here hx rfl (hb hby own_dh_16) rfl rfl k) ?_
  show own_Go p e below _ T3 (mkF m 17 #[rv a, rv b] [(.ref a), (.ref d), (.ref b), (.ref a)])
  obtain ⟨T4, X4, e4, st4⟩ := getF X3 hx hZ hown (host := "") (Or.inl (hw _ (List.mem_of_getElem? (i := 58) rfl))) Via.refl e3 F2_size_a (g := (mkF m 17 #[rv a, rv b] [(.ref a), (.ref d), (.ref b), (.ref a)])) rfl rfl (hb hby own_dh_17)
  refine own_st st4 ?_
  show own_Go p e below _ T4 (mkF m 20 #[rv a, rv b] [(.int 2), (.ref d), (.ref b), (.ref a)])
  obtain ⟨cq5, q5, q5'⟩ := E2_a.cell
  obtain ⟨_, _, ⟨T5, L5, k5, n5⟩, -, X5, ⟨Lc5, hQ5, l5, y5, z5⟩, st5⟩ := X4.privateBack hx (y := (⟨"java/util/ArrayList", "add", "(Ljava/lang/Object;[Ljava/lang/Object;I)V"⟩ : MethodName)) hown (mvT hZ (hw _ (List.mem_of_getElem? (i := 95) rfl))) (mvT hZ (hw _ (List.mem_of_getElem? (i := 96) rfl))) (mvT hZ (hw _ (List.mem_of_getElem? (i := 98) rfl))) (Cond.privateMethod_at (mvP hZ (hw _ (List.mem_of_getElem? (i := 97) rfl)) (args := #[]))) (mvT hZ (hw _ (List.mem_of_getElem? (i := 99) rfl))) (by decide) (backOf (W := 0) (own_rm_add3m2 l Z a0 hw [] a b d kd (mc + (1 : Int32)) u0 u1 h2 n0 Z2 E2_a F2_modCount_a F2_elementData_a F2_size_a g_a E2_b V2_d Ov_d g_d ne_a_d) hZ (hw _ (List.mem_of_getElem? (i := 99) rfl)) (hw _ (List.mem_of_getElem? (i := 2) rfl)) (by decide) (by decide)) (g := (mkF m 20 #[rv a, rv b] [(.int 2), (.ref d), (.ref b), (.ref a)])) rfl (by rw [hml]; rfl) (Steps.refl _) (a := a) (by rw [e4]; exact q5) q5' (argsL := [(.ref b), (.ref d), (.int (2 : Int32))]) (rest := []) (lenOf own_pd5 rfl) rfl (by show 2 * 0 + _ ≤ _; exact Nat.le_of_eq rfl) (hb hby own_dh_20) (fun _ _ => ⟨rfl, e4, (by decide : 0 + 0 ≤ _), (by decide : 0 + 0 ≤ _)⟩)
  dsimp only [Pt.U, Pt.locs, Pt.cells, Pt.slots] at X5 l5 y5 z5 st5 hQ5
  subst l5 y5 z5
  obtain ⟨rfl, N5, KC5, Fm5, Fe5, Fs5, Vd5⟩ := hQ5
  have M5 := Fr.app N2 N5
  refine own_tr st5 ?_
  show own_Go p e below _ T5 (mkF m 23 #[rv a, rv b] [])
  have E5_a := E2_a.keep KC5
  have E5_b := E2_b.keep KC5
  have Z5 : n0 ≤ T5.heap.size := Nat.le_trans Z2 KC5.1
  have KK5 : Keep h0 T5.heap [a, d] := K2.trans KC5 (allS (Or.inl (List.mem_of_getElem? (i := 0) rfl)) (allS (Or.inl (List.mem_of_getElem? (i := 1) rfl)) all0))
  refine own_st (fun _ k => XT.iconstV X5.here hx rfl (1 : Int32) (hb hby own_dh_23) (by decide) k) ?_
  show own_Go p e below _ T5 (mkF m 24 #[rv a, rv b] [(.int 1)])
  refine own_retN X5 hx Bd.notSynchronized (t := .boolean) Bd.returns (by simp) (hb hby own_dh_24) (by decide) (by decide) ?_
  exact ⟨rfl, M5, KK5, Fm5, Fe5, Fs5, Vd5⟩
theorem own_ef_size (m : MethodId) (x0 : Addr) : entryFrame m #[(.ref x0)] 1 = mkF m 0 #[.val (.ref x0)] [] := by first | (simp [entryFrame, mkF, argsToLocals, Value.category]; done) | rfl
def own_Q_size (Z : State) (a : Addr) (n : Int32) (h0 : Heap) (n0 : Nat) (v : Option Value) (h : Heap) (L : List Loc) : Prop := v = some (.int n) ∧ Fr n0 L ∧ h = h0
set_option maxRecDepth 65536 in
set_option maxHeartbeats 40000000 in
theorem own_rm_size (l : Launch) (Z : State) (a0 : Array Value) (hw : ∀ d ∈ tables_1, d.before a0 Z = true) (ws : List Jvm.Cond) (a : Addr) (n : Int32) (h0 : Heap) (n0 : Nat) (Z0 : n0 ≤ h0.size) (F_s : Fld Z h0 a "java/util/ArrayList" "size" "I" (.int n)) :
    MetFree l (⟨"java/util/ArrayList", "size", "()I"⟩ : MethodName) (head1 (Jvm.Cond.code (⟨"java/util/ArrayList", "size", "()I"⟩ : MethodName) jdk_38_method_8_code 1 (some .int) :: ws) ({ frames := 0, cells := 0, slots := 0, locals := 0 } : Room)) (fun zz U => zz = #[(.ref a)] ∧ Z.Warmed39 U.vm ∧ U.heap = h0) (fun _ _ _ _ _ => True) (fun _ U zo U' => ∃ v L, zo = .returned v ∧ own_Q_size Z a n h0 n0 v U'.heap L ∧ FrameEnd U zo U' L ({ frames := 0, cells := 0, slots := 0, locals := 0 } : Room).cells ({ frames := 0, cells := 0, slots := 0, locals := 0 } : Room).slots) := by
  refine MetFree.of_bodySF (plainFor_of_name own_pn3) hisR ?_
  intro p e s m args below meth c s₁ Bd hml0 hP hK
  obtain ⟨rfl, hZ, hh⟩ := hP
  have hx := Bd.exec
  have hby := Bd.bytes
  have hml : c.maxLocals = 1 := hml0
  have hown : s.vm.findClass "java/util/ArrayList" = some m.cls := findClass_of_methodNamed Bd.named
  have hnm := (name_of_methodNamed Bd.named Bd.method).1
  have X0 : Stand p l e ({ frames := 0, cells := 0, slots := 0, locals := 0 } : Room) s m #[(.ref a)] below meth c s₁ [] 0 0 := Stand.of_body Bd
  have e0 : s₁.heap = h0 := by rw [← hh, Bd.state]; rfl
  have N0 := Fr.nil n0
  show own_Go p e below (own_K s (own_Q_size Z a n h0 n0) ({ frames := 0, cells := 0, slots := 0, locals := 0 } : Room).cells ({ frames := 0, cells := 0, slots := 0, locals := 0 } : Room).slots) s₁ (entryFrame m #[(.ref a)] 1)
  rw [own_ef_size m a]
  show own_Go p e below _ s₁ (mkF m 0 #[rv a] [])
  refine own_st (fun _ k => XS.aloadN X0.here hx rfl (hb hby own_dm_0) rfl rfl k) ?_
  show own_Go p e below _ s₁ (mkF m 1 #[rv a] [(.ref a)])
  obtain ⟨T1, X1, e1, st1⟩ := getF X0 hx hZ hown (host := "") (Or.inl (hw _ (List.mem_of_getElem? (i := 58) rfl))) Via.refl e0 F_s (g := (mkF m 1 #[rv a] [(.ref a)])) rfl rfl (hb hby own_dm_1)
  refine own_st st1 ?_
  show own_Go p e below _ T1 (mkF m 4 #[rv a] [(.int n)])
  refine own_retI X1 hx Bd.notSynchronized Bd.returns (hb hby own_dm_4) (by decide) (by decide) ?_
  rw [e1]
  exact ⟨rfl, N0, rfl⟩
theorem own_ef_pchk (m : MethodId) (x0 : Int32) (x1 : Int32) : entryFrame m #[(.int x0), (.int x1), .null] 3 = mkF m 0 #[.val (.int x0), .val (.int x1), .val .null] [] := by first | (simp [entryFrame, mkF, argsToLocals, Value.category]; done) | rfl
def own_Q_pchk (Z : State) (i : Int32) (n : Int32) (h0 : Heap) (n0 : Nat) (v : Option Value) (h : Heap) (L : List Loc) : Prop := v = some (.int i) ∧ Fr n0 L ∧ h = h0
set_option maxRecDepth 65536 in
set_option maxHeartbeats 40000000 in
theorem own_rm_pchk (l : Launch) (Z : State) (a0 : Array Value) (hw : ∀ d ∈ tables_1, d.before a0 Z = true) (ws : List Jvm.Cond) (i : Int32) (n : Int32) (h0 : Heap) (n0 : Nat) (Z0 : n0 ≤ h0.size) (hi : ¬ i < 0) (hn : i < n) :
    MetFree l (⟨"jdk/internal/util/Preconditions", "checkIndex", "(IILjava/util/function/BiFunction;)I"⟩ : MethodName) (head1 (Jvm.Cond.code (⟨"jdk/internal/util/Preconditions", "checkIndex", "(IILjava/util/function/BiFunction;)I"⟩ : MethodName) jdk_41_method_11_code 3 (some .int) :: ws) ({ frames := 0, cells := 0, slots := 0, locals := 0 } : Room)) (fun zz U => zz = #[(.int i), (.int n), .null] ∧ Z.Warmed39 U.vm ∧ U.heap = h0) (fun _ _ _ _ _ => True) (fun _ U zo U' => ∃ v L, zo = .returned v ∧ own_Q_pchk Z i n h0 n0 v U'.heap L ∧ FrameEnd U zo U' L ({ frames := 0, cells := 0, slots := 0, locals := 0 } : Room).cells ({ frames := 0, cells := 0, slots := 0, locals := 0 } : Room).slots) := by
  refine MetFree.of_bodySF (plainFor_of_name own_pn5) hisR ?_
  intro p e s m args below meth c s₁ Bd hml0 hP hK
  obtain ⟨rfl, hZ, hh⟩ := hP
  have hx := Bd.exec
  have hby := Bd.bytes
  have hml : c.maxLocals = 3 := hml0
  have hown : s.vm.findClass "jdk/internal/util/Preconditions" = some m.cls := findClass_of_methodNamed Bd.named
  have hnm := (name_of_methodNamed Bd.named Bd.method).1
  have X0 : Stand p l e ({ frames := 0, cells := 0, slots := 0, locals := 0 } : Room) s m #[(.int i), (.int n), .null] below meth c s₁ [] 0 0 := Stand.of_body Bd
  have e0 : s₁.heap = h0 := by rw [← hh, Bd.state]; rfl
  have N0 := Fr.nil n0
  show own_Go p e below (own_K s (own_Q_pchk Z i n h0 n0) ({ frames := 0, cells := 0, slots := 0, locals := 0 } : Room).cells ({ frames := 0, cells := 0, slots := 0, locals := 0 } : Room).slots) s₁ (entryFrame m #[(.int i), (.int n), .null] 3)
  rw [own_ef_pchk m i n]
  show own_Go p e below _ s₁ (mkF m 0 #[iv i, iv n, .val .null] [])
  refine own_st (fun _ k => XS.iloadN X0.here hx rfl (hb hby own_dq_0) rfl k) ?_
  show own_Go p e below _ s₁ (mkF m 1 #[iv i, iv n, .val .null] [(.int i)])
  refine own_st (fun _ k => XS.ifNo X0.here hx rfl (hb hby own_dq_1) rfl (XT.i0_lt_f hi) k) ?_
  show own_Go p e below _ s₁ (mkF m 4 #[iv i, iv n, .val .null] [])
  refine own_st (fun _ k => XS.iloadN X0.here hx rfl (hb hby own_dq_4) rfl k) ?_
  show own_Go p e below _ s₁ (mkF m 5 #[iv i, iv n, .val .null] [(.int i)])
  refine own_st (fun _ k => XS.iloadN X0.here hx rfl (hb hby own_dq_5) rfl k) ?_
  show own_Go p e below _ s₁ (mkF m 6 #[iv i, iv n, .val .null] [(.int n), (.int i)])
  refine own_st (fun _ k => XS.icmpYes X0.here hx rfl (pc0 := 6) (pc' := 16) rfl (hb hby own_dq_6) rfl (XT.ii_lt_t hn) (by decide) (by decide) k) ?_
  show own_Go p e below _ s₁ (mkF m 16 #[iv i, iv n, .val .null] [])
  refine own_st (fun _ k => XS.iloadN X0.here hx rfl (hb hby own_dq_16) rfl k) ?_
  show own_Go p e below _ s₁ (mkF m 17 #[iv i, iv n, .val .null] [(.int i)])
  refine own_retI X0 hx Bd.notSynchronized Bd.returns (hb hby own_dq_17) (by decide) (by decide) ?_
  rw [e0]
  exact ⟨rfl, N0, rfl⟩
theorem own_ef_chk (m : MethodId) (x0 : Int32) (x1 : Int32) : entryFrame m #[(.int x0), (.int x1)] 2 = mkF m 0 #[.val (.int x0), .val (.int x1)] [] := by first | (simp [entryFrame, mkF, argsToLocals, Value.category]; done) | rfl
def own_Q_chk (Z : State) (i : Int32) (n : Int32) (h0 : Heap) (n0 : Nat) (v : Option Value) (h : Heap) (L : List Loc) : Prop := v = some (.int i) ∧ Fr n0 L ∧ h = h0
set_option maxRecDepth 65536 in
set_option maxHeartbeats 40000000 in
theorem own_rm_chk (l : Launch) (Z : State) (a0 : Array Value) (hw : ∀ d ∈ tables_1, d.before a0 Z = true) (ws : List Jvm.Cond) (i : Int32) (n : Int32) (h0 : Heap) (n0 : Nat) (Z0 : n0 ≤ h0.size) (hi : ¬ i < 0) (hn : i < n) :
    MetFree l (⟨"java/util/Objects", "checkIndex", "(II)I"⟩ : MethodName) (head1 (Jvm.Cond.code (⟨"java/util/Objects", "checkIndex", "(II)I"⟩ : MethodName) jdk_31_method_17_code 2 (some .int) :: ws) ({ frames := 1, cells := 0, slots := 0, locals := 14 } : Room)) (fun zz U => zz = #[(.int i), (.int n)] ∧ Z.Warmed39 U.vm ∧ U.heap = h0) (fun _ _ _ _ _ => True) (fun _ U zo U' => ∃ v L, zo = .returned v ∧ own_Q_chk Z i n h0 n0 v U'.heap L ∧ FrameEnd U zo U' L ({ frames := 1, cells := 0, slots := 0, locals := 14 } : Room).cells ({ frames := 1, cells := 0, slots := 0, locals := 14 } : Room).slots) := by
  refine MetFree.of_bodySF (plainFor_of_name own_pn6) hisR ?_
  intro p e s m args below meth c s₁ Bd hml0 hP hK
  obtain ⟨rfl, hZ, hh⟩ := hP
  have hx := Bd.exec
  have hby := Bd.bytes
  have hml : c.maxLocals = 2 := hml0
  have hown : s.vm.findClass "java/util/Objects" = some m.cls := findClass_of_methodNamed Bd.named
  have hnm := (name_of_methodNamed Bd.named Bd.method).1
  have X0 : Stand p l e ({ frames := 1, cells := 0, slots := 0, locals := 14 } : Room) s m #[(.int i), (.int n)] below meth c s₁ [] 0 0 := Stand.of_body Bd
  have e0 : s₁.heap = h0 := by rw [← hh, Bd.state]; rfl
  have N0 := Fr.nil n0
  show own_Go p e below (own_K s (own_Q_chk Z i n h0 n0) ({ frames := 1, cells := 0, slots := 0, locals := 14 } : Room).cells ({ frames := 1, cells := 0, slots := 0, locals := 14 } : Room).slots) s₁ (entryFrame m #[(.int i), (.int n)] 2)
  rw [own_ef_chk m i n]
  show own_Go p e below _ s₁ (mkF m 0 #[iv i, iv n] [])
  refine own_st (fun _ k => XS.iloadN X0.here hx rfl (hb hby own_dp_0) rfl k) ?_
  show own_Go p e below _ s₁ (mkF m 1 #[iv i, iv n] [(.int i)])
  refine own_st (fun _ k => XS.iloadN X0.here hx rfl (hb hby own_dp_1) rfl k) ?_
  show own_Go p e below _ s₁ (mkF m 2 #[iv i, iv n] [(.int n), (.int i)])
  refine own_st (fun _ k => XS.aconstNull X0.here hx rfl (hb hby own_dp_2) k) ?_
  show own_Go p e below _ s₁ (mkF m 3 #[iv i, iv n] [.null, (.int n), (.int i)])
  obtain ⟨_, _, ⟨T1, L1, k1, n1⟩, -, X1, ⟨Lc1, hQ1, l1, y1, z1⟩, st1⟩ := Jvm.LawKit.callS X0 hx (y := (⟨"jdk/internal/util/Preconditions", "checkIndex", "(IILjava/util/function/BiFunction;)I"⟩ : MethodName)) hown (mvT hZ (hw _ (List.mem_of_getElem? (i := 144) rfl))) (mvT hZ (hw _ (List.mem_of_getElem? (i := 145) rfl))) (mvT hZ (hw _ (List.mem_of_getElem? (i := 146) rfl))) (mvT hZ (hw _ (List.mem_of_getElem? (i := 147) rfl))) (by decide) (backOf (W := 0) (own_rm_pchk l Z a0 hw [] i n h0 n0 Z0 hi hn) hZ (hw _ (List.mem_of_getElem? (i := 147) rfl)) (hw _ (List.mem_of_getElem? (i := 146) rfl)) (by decide) (by decide)) (g := (mkF m 3 #[iv i, iv n] [.null, (.int n), (.int i)])) rfl (by rw [hml]; rfl) (argsL := [(.int i), (.int n), .null]) (rest := []) (lenOf own_pd6 rfl) rfl (by show 2 * 0 + _ ≤ _; exact Nat.le_of_eq rfl) (hb hby own_dp_3) (fun _ _ => ⟨rfl, e0, (by decide : 0 + 0 ≤ _), (by decide : 0 + 0 ≤ _)⟩)
  dsimp only [Pt.U, Pt.locs, Pt.cells, Pt.slots] at X1 l1 y1 z1 st1 hQ1
  subst l1 y1 z1
  obtain ⟨rfl, N1, eh1⟩ := hQ1
  have M1 := Fr.app N0 N1
  refine own_st st1 ?_
  show own_Go p e below _ T1 (mkF m 6 #[iv i, iv n] [(.int i)])
  refine own_retI X1 hx Bd.notSynchronized Bd.returns (hb hby own_dp_6) (by decide) (by decide) ?_
  rw [eh1]
  exact ⟨rfl, M1, rfl⟩
theorem own_ef_eld (m : MethodId) (x0 : Addr) (x1 : Int32) : entryFrame m #[(.ref x0), (.int x1)] 2 = mkF m 0 #[.val (.ref x0), .val (.int x1)] [] := by first | (simp [entryFrame, mkF, argsToLocals, Value.category]; done) | rfl
def own_Q_eld (Z : State) (a : Addr) (d : Addr) (kd : ClassId) (i : Int32) (vs : List Value) (b : Addr) (h0 : Heap) (n0 : Nat) (v : Option Value) (h : Heap) (L : List Loc) : Prop := v = some (.ref b) ∧ Fr n0 L ∧ h = h0
set_option maxRecDepth 65536 in
set_option maxHeartbeats 40000000 in
theorem own_rm_eld (l : Launch) (Z : State) (a0 : Array Value) (hw : ∀ d ∈ tables_1, d.before a0 Z = true) (ws : List Jvm.Cond) (a : Addr) (d : Addr) (kd : ClassId) (i : Int32) (vs : List Value) (b : Addr) (h0 : Heap) (n0 : Nat) (Z0 : n0 ≤ h0.size) (F_e : Fld Z h0 a "java/util/ArrayList" "elementData" "[Ljava/lang/Object;" (.ref d)) (V_d : Arv Z h0 d kd (.object "java/lang/Object") (10 : Int32) vs .null) (hi : ¬ i < 0) (h10 : i < (10 : Int32)) (hv : vs.getD i.toNatClampNeg .null = .ref b) :
    MetFree l (⟨"java/util/ArrayList", "elementData", "(I)Ljava/lang/Object;"⟩ : MethodName) (head1 (Jvm.Cond.code (⟨"java/util/ArrayList", "elementData", "(I)Ljava/lang/Object;"⟩ : MethodName) jdk_38_method_18_code 2 (some (.object "java/lang/Object")) :: ws) ({ frames := 0, cells := 0, slots := 0, locals := 0 } : Room)) (fun zz U => zz = #[(.ref a), (.int i)] ∧ Z.Warmed39 U.vm ∧ U.heap = h0) (fun _ _ _ _ _ => True) (fun _ U zo U' => ∃ v L, zo = .returned v ∧ own_Q_eld Z a d kd i vs b h0 n0 v U'.heap L ∧ FrameEnd U zo U' L ({ frames := 0, cells := 0, slots := 0, locals := 0 } : Room).cells ({ frames := 0, cells := 0, slots := 0, locals := 0 } : Room).slots) := by
  refine MetFree.of_bodySF (plainFor_of_name own_pn3) hisR ?_
  intro p e s m args below meth c s₁ Bd hml0 hP hK
  obtain ⟨rfl, hZ, hh⟩ := hP
  have hx := Bd.exec
  have hby := Bd.bytes
  have hml : c.maxLocals = 2 := hml0
  have hown : s.vm.findClass "java/util/ArrayList" = some m.cls := findClass_of_methodNamed Bd.named
  have hnm := (name_of_methodNamed Bd.named Bd.method).1
  have X0 : Stand p l e ({ frames := 0, cells := 0, slots := 0, locals := 0 } : Room) s m #[(.ref a), (.int i)] below meth c s₁ [] 0 0 := Stand.of_body Bd
  have e0 : s₁.heap = h0 := by rw [← hh, Bd.state]; rfl
  have N0 := Fr.nil n0
  show own_Go p e below (own_K s (own_Q_eld Z a d kd i vs b h0 n0) ({ frames := 0, cells := 0, slots := 0, locals := 0 } : Room).cells ({ frames := 0, cells := 0, slots := 0, locals := 0 } : Room).slots) s₁ (entryFrame m #[(.ref a), (.int i)] 2)
  rw [own_ef_eld m a i]
  show own_Go p e below _ s₁ (mkF m 0 #[rv a, iv i] [])
  refine own_st (fun _ k => XS.aloadN X0.here hx rfl (hb hby own_do_0) rfl rfl k) ?_
  show own_Go p e below _ s₁ (mkF m 1 #[rv a, iv i] [(.ref a)])
  obtain ⟨T1, X1, e1, st1⟩ := getF X0 hx hZ hown (host := "") (Or.inl (hw _ (List.mem_of_getElem? (i := 24) rfl))) Via.refl e0 F_e (g := (mkF m 1 #[rv a, iv i] [(.ref a)])) rfl rfl (hb hby own_do_1)
  refine own_st st1 ?_
  show own_Go p e below _ T1 (mkF m 4 #[rv a, iv i] [(.ref d)])
  refine own_st (fun _ k => XS.iloadN X1.here hx rfl (hb hby own_do_4) rfl k) ?_
  show own_Go p e below _ T1 (mkF m 5 #[rv a, iv i] [(.int i), (.ref d)])
  refine own_st (fun _ k => own_ldR X1 hx hZ e1 V_d rfl ⟨hi, h10⟩ (v := (.ref b)) hv rfl rfl (hb hby own_do_5) k) ?_
  show own_Go p e below _ T1 (mkF m 6 #[rv a, iv i] [(.ref b)])
  refine own_retA X1 hx Bd.notSynchronized Bd.returns rfl rfl (hb hby own_do_6) (by decide) (by decide) ?_
  rw [e1]
  exact ⟨rfl, N0, rfl⟩
theorem own_ef_get (m : MethodId) (x0 : Addr) (x1 : Int32) : entryFrame m #[(.ref x0), (.int x1)] 2 = mkF m 0 #[.val (.ref x0), .val (.int x1)] [] := by first | (simp [entryFrame, mkF, argsToLocals, Value.category]; done) | rfl
def own_Q_get (Z : State) (a : Addr) (d : Addr) (kd : ClassId) (i : Int32) (vs : List Value) (b : Addr) (n : Int32) (h0 : Heap) (n0 : Nat) (v : Option Value) (h : Heap) (L : List Loc) : Prop := v = some (.ref b) ∧ Fr n0 L ∧ h = h0
set_option maxRecDepth 65536 in
set_option maxHeartbeats 40000000 in
theorem own_rm_get (l : Launch) (Z : State) (a0 : Array Value) (hw : ∀ d ∈ tables_1, d.before a0 Z = true) (ws : List Jvm.Cond) (a : Addr) (d : Addr) (kd : ClassId) (i : Int32) (vs : List Value) (b : Addr) (n : Int32) (h0 : Heap) (n0 : Nat) (Z0 : n0 ≤ h0.size) (F_e : Fld Z h0 a "java/util/ArrayList" "elementData" "[Ljava/lang/Object;" (.ref d)) (V_d : Arv Z h0 d kd (.object "java/lang/Object") (10 : Int32) vs .null) (hi : ¬ i < 0) (h10 : i < (10 : Int32)) (hv : vs.getD i.toNatClampNeg .null = .ref b) (F_s : Fld Z h0 a "java/util/ArrayList" "size" "I" (.int n)) (hn : i < n) (E_a : Exa Z h0 a "java/util/ArrayList") :
    MetFree l (⟨"java/util/ArrayList", "get", "(I)Ljava/lang/Object;"⟩ : MethodName) (head1 (Jvm.Cond.code (⟨"java/util/ArrayList", "get", "(I)Ljava/lang/Object;"⟩ : MethodName) jdk_38_method_20_code 2 (some (.object "java/lang/Object")) :: ws) ({ frames := 2, cells := 0, slots := 0, locals := 27 } : Room)) (fun zz U => zz = #[(.ref a), (.int i)] ∧ Z.Warmed39 U.vm ∧ U.heap = h0) (fun _ _ _ _ _ => True) (fun _ U zo U' => ∃ v L, zo = .returned v ∧ own_Q_get Z a d kd i vs b n h0 n0 v U'.heap L ∧ FrameEnd U zo U' L ({ frames := 2, cells := 0, slots := 0, locals := 27 } : Room).cells ({ frames := 2, cells := 0, slots := 0, locals := 27 } : Room).slots) := by
  refine MetFree.of_bodySF (plainFor_of_name own_pn3) hisR ?_
  intro p e s m args below meth c s₁ Bd hml0 hP hK
  obtain ⟨rfl, hZ, hh⟩ := hP
  have hx := Bd.exec
  have hby := Bd.bytes
  have hml : c.maxLocals = 2 := hml0
  have hown : s.vm.findClass "java/util/ArrayList" = some m.cls := findClass_of_methodNamed Bd.named
  have hnm := (name_of_methodNamed Bd.named Bd.method).1
  have X0 : Stand p l e ({ frames := 2, cells := 0, slots := 0, locals := 27 } : Room) s m #[(.ref a), (.int i)] below meth c s₁ [] 0 0 := Stand.of_body Bd
  have e0 : s₁.heap = h0 := by rw [← hh, Bd.state]; rfl
  have N0 := Fr.nil n0
  show own_Go p e below (own_K s (own_Q_get Z a d kd i vs b n h0 n0) ({ frames := 2, cells := 0, slots := 0, locals := 27 } : Room).cells ({ frames := 2, cells := 0, slots := 0, locals := 27 } : Room).slots) s₁ (entryFrame m #[(.ref a), (.int i)] 2)
  rw [own_ef_get m a i]
  show own_Go p e below _ s₁ (mkF m 0 #[rv a, iv i] [])
  refine own_st (fun _ k => XS.iloadN X0.here hx rfl (hb hby own_dn_0) rfl k) ?_
  show own_Go p e below _ s₁ (mkF m 1 #[rv a, iv i] [(.int i)])
  refine own_st (fun _ k => XS.aloadN X0.here hx rfl (hb hby own_dn_1) rfl rfl k) ?_
  show own_Go p e below _ s₁ (mkF m 2 #[rv a, iv i] [(.ref a), (.int i)])
  obtain ⟨T1, X1, e1, st1⟩ := getF X0 hx hZ hown (host := "") (Or.inl (hw _ (List.mem_of_getElem? (i := 58) rfl))) Via.refl e0 F_s (g := (mkF m 2 #[rv a, iv i] [(.ref a), (.int i)])) rfl rfl (hb hby own_dn_2)
  refine own_st st1 ?_
  show own_Go p e below _ T1 (mkF m 5 #[rv a, iv i] [(.int n), (.int i)])
  obtain ⟨_, _, ⟨T2, L2, k2, n2⟩, -, X2, ⟨Lc2, hQ2, l2, y2, z2⟩, st2⟩ := Jvm.LawKit.callS X1 hx (y := (⟨"java/util/Objects", "checkIndex", "(II)I"⟩ : MethodName)) hown (mvT hZ (hw _ (List.mem_of_getElem? (i := 140) rfl))) (mvT hZ (hw _ (List.mem_of_getElem? (i := 141) rfl))) (mvT hZ (hw _ (List.mem_of_getElem? (i := 142) rfl))) (mvT hZ (hw _ (List.mem_of_getElem? (i := 143) rfl))) (by decide) (backOf (W := 0) (own_rm_chk l Z a0 hw [] i n h0 n0 Z0 hi hn) hZ (hw _ (List.mem_of_getElem? (i := 143) rfl)) (hw _ (List.mem_of_getElem? (i := 142) rfl)) (by decide) (by decide)) (g := (mkF m 5 #[rv a, iv i] [(.int n), (.int i)])) rfl (by rw [hml]; rfl) (argsL := [(.int i), (.int n)]) (rest := []) (lenOf own_pd2 rfl) rfl (by show 2 * 0 + _ ≤ _; exact Nat.le_of_eq rfl) (hb hby own_dn_5) (fun _ _ => ⟨rfl, e1, (by decide : 0 + 0 ≤ _), (by decide : 0 + 0 ≤ _)⟩)
  dsimp only [Pt.U, Pt.locs, Pt.cells, Pt.slots] at X2 l2 y2 z2 st2 hQ2
  subst l2 y2 z2
  obtain ⟨rfl, N2, eh2⟩ := hQ2
  have M2 := Fr.app N0 N2
  refine own_st st2 ?_
  show own_Go p e below _ T2 (mkF m 8 #[rv a, iv i] [(.int i)])
  refine own_st (fun _ k => XT.pop X2.here hx rfl (hb hby own_dn_8) rfl rfl k) ?_
  show own_Go p e below _ T2 (mkF m 9 #[rv a, iv i] [])
  refine own_st (fun _ k => XS.aloadN X2.here hx rfl (hb hby own_dn_9) rfl rfl k) ?_
  show own_Go p e below _ T2 (mkF m 10 #[rv a, iv i] [(.ref a)])
  refine own_st (fun _ k => XS.iloadN X2.here hx rfl (hb hby own_dn_10) rfl k) ?_
  show own_Go p e below _ T2 (mkF m 11 #[rv a, iv i] [(.int i), (.ref a)])
  obtain ⟨cq3, kq3, q3a, q3b, q3c⟩ := isOf hZ eh2 E_a
  obtain ⟨_, _, ⟨T3, L3, k3, n3⟩, -, X3, ⟨Lc3, hQ3, l3, y3, z3⟩, st3⟩ := X2.virtualBack hx (y := (⟨"java/util/ArrayList", "elementData", "(I)Ljava/lang/Object;"⟩ : MethodName)) (z := (⟨"java/util/ArrayList", "elementData", "(I)Ljava/lang/Object;"⟩ : MethodName)) hown (mvT hZ (hw _ (List.mem_of_getElem? (i := 148) rfl))) (mvT hZ (hw _ (List.mem_of_getElem? (i := 149) rfl))) (notFace_of_selects (args := #[]) (mvT hZ (hw _ (List.mem_of_getElem? (i := 151) rfl)))) (mvT hZ (hw _ (List.mem_of_getElem? (i := 151) rfl))) (mvT hZ (hw _ (List.mem_of_getElem? (i := 150) rfl))) (by decide) (backOf (W := 0) (own_rm_eld l Z a0 hw [] a d kd i vs b h0 n0 Z0 F_e V_d hi h10 hv) hZ (hw _ (List.mem_of_getElem? (i := 152) rfl)) (hw _ (List.mem_of_getElem? (i := 2) rfl)) (by decide) (by decide)) q3a q3c (g := (mkF m 11 #[rv a, iv i] [(.int i), (.ref a)])) rfl (by rw [hml]; rfl) (Steps.refl _) (argsL := [(.int i)]) (rest := []) (lenOf own_pd7 rfl) rfl (by show 2 * 0 + _ ≤ _; exact Nat.le_of_eq rfl) (hb hby own_dn_11) (fun _ _ => ⟨rfl, eh2, (by decide : 0 + 0 ≤ _), (by decide : 0 + 0 ≤ _)⟩)
  dsimp only [Pt.U, Pt.locs, Pt.cells, Pt.slots] at X3 l3 y3 z3 st3 hQ3
  subst l3 y3 z3
  obtain ⟨rfl, N3, eh3⟩ := hQ3
  have M3 := Fr.app M2 N3
  refine own_tr st3 ?_
  show own_Go p e below _ T3 (mkF m 14 #[rv a, iv i] [(.ref b)])
  refine own_retA X3 hx Bd.notSynchronized Bd.returns rfl rfl (hb hby own_dn_14) (by decide) (by decide) ?_
  rw [eh3]
  exact ⟨rfl, M3, rfl⟩
theorem own_ef_lval (m : MethodId) (x0 : Addr) : entryFrame m #[(.ref x0)] 1 = mkF m 0 #[.val (.ref x0)] [] := by first | (simp [entryFrame, mkF, argsToLocals, Value.category]; done) | rfl
def own_Q_lval (Z : State) (a : Addr) (x : Int64) (h0 : Heap) (n0 : Nat) (v : Option Value) (h : Heap) (L : List Loc) : Prop := v = some (.long x) ∧ Fr n0 L ∧ h = h0
set_option maxRecDepth 65536 in
set_option maxHeartbeats 40000000 in
theorem own_rm_lval (l : Launch) (Z : State) (a0 : Array Value) (hw : ∀ d ∈ tables_1, d.before a0 Z = true) (ws : List Jvm.Cond) (a : Addr) (x : Int64) (h0 : Heap) (n0 : Nat) (Z0 : n0 ≤ h0.size) (F_v : Fld Z h0 a "java/lang/Long" "value" "J" (.long x)) :
    MetFree l (⟨"java/lang/Long", "longValue", "()J"⟩ : MethodName) (head1 (Jvm.Cond.code (⟨"java/lang/Long", "longValue", "()J"⟩ : MethodName) jdk_35_method_31_code 1 (some .long) :: ws) ({ frames := 0, cells := 0, slots := 0, locals := 0 } : Room)) (fun zz U => zz = #[(.ref a)] ∧ Z.Warmed39 U.vm ∧ U.heap = h0) (fun _ _ _ _ _ => True) (fun _ U zo U' => ∃ v L, zo = .returned v ∧ own_Q_lval Z a x h0 n0 v U'.heap L ∧ FrameEnd U zo U' L ({ frames := 0, cells := 0, slots := 0, locals := 0 } : Room).cells ({ frames := 0, cells := 0, slots := 0, locals := 0 } : Room).slots) := by
  refine MetFree.of_bodySF (plainFor_of_name own_pn4) hisR ?_
  intro p e s m args below meth c s₁ Bd hml0 hP hK
  obtain ⟨rfl, hZ, hh⟩ := hP
  have hx := Bd.exec
  have hby := Bd.bytes
  have hml : c.maxLocals = 1 := hml0
  have hown : s.vm.findClass "java/lang/Long" = some m.cls := findClass_of_methodNamed Bd.named
  have hnm := (name_of_methodNamed Bd.named Bd.method).1
  have X0 : Stand p l e ({ frames := 0, cells := 0, slots := 0, locals := 0 } : Room) s m #[(.ref a)] below meth c s₁ [] 0 0 := Stand.of_body Bd
  have e0 : s₁.heap = h0 := by rw [← hh, Bd.state]; rfl
  have N0 := Fr.nil n0
  show own_Go p e below (own_K s (own_Q_lval Z a x h0 n0) ({ frames := 0, cells := 0, slots := 0, locals := 0 } : Room).cells ({ frames := 0, cells := 0, slots := 0, locals := 0 } : Room).slots) s₁ (entryFrame m #[(.ref a)] 1)
  rw [own_ef_lval m a]
  show own_Go p e below _ s₁ (mkF m 0 #[rv a] [])
  refine own_st (fun _ k => XS.aloadN X0.here hx rfl (hb hby own_dg_0) rfl rfl k) ?_
  show own_Go p e below _ s₁ (mkF m 1 #[rv a] [(.ref a)])
  obtain ⟨T1, X1, e1, st1⟩ := getF X0 hx hZ hown (host := "") (Or.inl (hw _ (List.mem_of_getElem? (i := 130) rfl))) Via.refl e0 F_v (g := (mkF m 1 #[rv a] [(.ref a)])) rfl rfl (hb hby own_dg_1)
  refine own_st st1 ?_
  show own_Go p e below _ T1 (mkF m 4 #[rv a] [(.long x)])
  refine own_retL X1 hx Bd.notSynchronized Bd.returns (hb hby own_dg_4) (by decide) (by decide) ?_
  rw [e1]
  exact ⟨rfl, N0, rfl⟩
theorem own_ef_aki (m : MethodId) (x0 : Addr) (x1 : Addr) (x2 : Int32) (x3 : Int64) : entryFrame m #[(.ref x0), (.ref x1), (.int x2), (.long x3), .null] 6 = mkF m 0 #[.val (.ref x0), .val (.ref x1), .val (.int x2), .val (.long x3), .second, .val .null] [] := by first | (simp [entryFrame, mkF, argsToLocals, Value.category]; done) | rfl
def own_Q_aki (Z : State) (a : Addr) (r : Addr) (h0 : Heap) (n0 : Nat) (v : Option Value) (h : Heap) (L : List Loc) : Prop := v = none ∧ Fr n0 L ∧ Keep h0 h [a] ∧ Fld Z h a "com/example/limpet/limpet/RedisBackend$Acknowledged" "reply" "Ljava/util/List;" (.ref r) ∧ Fld Z h a "com/example/limpet/limpet/RedisBackend$Acknowledged" "asked" "I" (.int (0 : Int32)) ∧ Fld Z h a "com/example/limpet/limpet/RedisBackend$Acknowledged" "acknowledged" "J" (.long (0 : Int64)) ∧ Fld Z h a "com/example/limpet/limpet/RedisBackend$Acknowledged" "failure" "Ljava/lang/RuntimeException;" .null
set_option maxRecDepth 65536 in
set_option maxHeartbeats 40000000 in
theorem own_rm_aki (l : Launch) (Z : State) (a0 : Array Value) (hw : ∀ d ∈ tables_1, d.before a0 Z = true) (ws : List Jvm.Cond) (a : Addr) (r : Addr) (h0 : Heap) (n0 : Nat) (Z0 : n0 ≤ h0.size) (E_a : Exa Z h0 a "com/example/limpet/limpet/RedisBackend$Acknowledged") (F_r : Fld Z h0 a "com/example/limpet/limpet/RedisBackend$Acknowledged" "reply" "Ljava/util/List;" .null) (F_a : Fld Z h0 a "com/example/limpet/limpet/RedisBackend$Acknowledged" "asked" "I" (.int (0 : Int32))) (F_c : Fld Z h0 a "com/example/limpet/limpet/RedisBackend$Acknowledged" "acknowledged" "J" (.long (0 : Int64))) (F_x : Fld Z h0 a "com/example/limpet/limpet/RedisBackend$Acknowledged" "failure" "Ljava/lang/RuntimeException;" .null) (g_a : n0 ≤ a) :
    MetFree l (⟨"com/example/limpet/limpet/RedisBackend$Acknowledged", "<init>", "(Ljava/util/List;IJLjava/lang/RuntimeException;)V"⟩ : MethodName) (head1 (Jvm.Cond.code (⟨"com/example/limpet/limpet/RedisBackend$Acknowledged", "<init>", "(Ljava/util/List;IJLjava/lang/RuntimeException;)V"⟩ : MethodName) prog_15_method_1_code 6 none :: ws) ({ frames := 1, cells := 0, slots := 0, locals := 12 } : Room)) (fun zz U => zz = #[(.ref a), (.ref r), (.int (0 : Int32)), (.long (0 : Int64)), .null] ∧ Z.Warmed39 U.vm ∧ U.heap = h0) (fun _ _ _ _ _ => True) (fun _ U zo U' => ∃ v L, zo = .returned v ∧ own_Q_aki Z a r h0 n0 v U'.heap L ∧ FrameEnd U zo U' L ({ frames := 1, cells := 0, slots := 0, locals := 12 } : Room).cells ({ frames := 1, cells := 0, slots := 0, locals := 12 } : Room).slots) := by
  refine MetFree.of_bodySF (plainFor_of_name own_pn7) hisR ?_
  intro p e s m args below meth c s₁ Bd hml0 hP hK
  obtain ⟨rfl, hZ, hh⟩ := hP
  have hx := Bd.exec
  have hby := Bd.bytes
  have hml : c.maxLocals = 6 := hml0
  have hown : s.vm.findClass "com/example/limpet/limpet/RedisBackend$Acknowledged" = some m.cls := findClass_of_methodNamed Bd.named
  have hnm := (name_of_methodNamed Bd.named Bd.method).1
  have X0 : Stand p l e ({ frames := 1, cells := 0, slots := 0, locals := 12 } : Room) s m #[(.ref a), (.ref r), (.int (0 : Int32)), (.long (0 : Int64)), .null] below meth c s₁ [] 0 0 := Stand.of_body Bd
  have e0 : s₁.heap = h0 := by rw [← hh, Bd.state]; rfl
  have N0 := Fr.nil n0
  show own_Go p e below (own_K s (own_Q_aki Z a r h0 n0) ({ frames := 1, cells := 0, slots := 0, locals := 12 } : Room).cells ({ frames := 1, cells := 0, slots := 0, locals := 12 } : Room).slots) s₁ (entryFrame m #[(.ref a), (.ref r), (.int (0 : Int32)), (.long (0 : Int64)), .null] 6)
  rw [own_ef_aki m a r (0 : Int32) (0 : Int64)]
  show own_Go p e below _ s₁ (mkF m 0 #[rv a, rv r, iv 0, .val (.long 0), .second, .val .null] [])
  have K0 : Keep h0 h0 [a] := Keep.refl _ _
  refine own_st (fun _ k => XS.aloadN X0.here hx rfl (hb hby own_ds_0) rfl rfl k) ?_
  show own_Go p e below _ s₁ (mkF m 1 #[rv a, rv r, iv 0, .val (.long 0), .second, .val .null] [(.ref a)])
  obtain ⟨T1, X1, e1, st1⟩ := initO X0 hx hZ hown (hw _ (List.mem_of_getElem? (i := 35) rfl)) (hw _ (List.mem_of_getElem? (i := 19) rfl)) (hw _ (List.mem_of_getElem? (i := 20) rfl)) e0 (g := (mkF m 1 #[rv a, rv r, iv 0, .val (.long 0), .second, .val .null] [(.ref a)])) rfl (by rw [hml]; rfl) rfl (hb hby own_ds_1) (by decide) (W := 0) (by show 2 * 0 + _ ≤ _; exact Nat.le_of_eq rfl) (by decide)
  refine own_st st1 ?_
  show own_Go p e below _ T1 (mkF m 4 #[rv a, rv r, iv 0, .val (.long 0), .second, .val .null] [])
  refine own_st (fun _ k => XS.aloadN X1.here hx rfl (hb hby own_ds_4) rfl rfl k) ?_
  show own_Go p e below _ T1 (mkF m 5 #[rv a, rv r, iv 0, .val (.long 0), .second, .val .null] [(.ref a)])
  refine own_st (fun _ k => XS.aloadN X1.here hx rfl (hb hby own_ds_5) rfl rfl k) ?_
  show own_Go p e below _ T1 (mkF m 6 #[rv a, rv r, iv 0, .val (.long 0), .second, .val .null] [(.ref r), (.ref a)])
  obtain ⟨T2, h2, X2, e2, W2, st2⟩ := putF X1 hx hZ hown (host := "") (Or.inl (hw _ (List.mem_of_getElem? (i := 36) rfl))) Via.refl e1 F_r E_a (Or.inr ⟨(hw _ (List.mem_of_getElem? (i := 37) rfl)), rfl, hnm⟩) (hw _ (List.mem_of_getElem? (i := 31) rfl)) (ty := .object "java/util/List") (by decide) rfl rfl (g := (mkF m 6 #[rv a, rv r, iv 0, .val (.long 0), .second, .val .null] [(.ref r), (.ref a)])) rfl rfl (hb hby own_ds_6)
  have E2_a := E_a.wr W2
  have F2_reply_a := F_r.same W2
  have F2_asked_a := F_a.other W2 (Or.inr (slot_ne (Or.inr (hw _ (List.mem_of_getElem? (i := 39) rfl))) (Or.inr (hw _ (List.mem_of_getElem? (i := 37) rfl))) (by decide) (t := .int) (t' := .object "java/util/List") (by decide) (by decide)))
  have F2_acknowledged_a := F_c.other W2 (Or.inr (slot_ne (Or.inr (hw _ (List.mem_of_getElem? (i := 41) rfl))) (Or.inr (hw _ (List.mem_of_getElem? (i := 37) rfl))) (by decide) (t := .long) (t' := .object "java/util/List") (by decide) (by decide)))
  have F2_failure_a := F_x.other W2 (Or.inr (slot_ne (Or.inr (hw _ (List.mem_of_getElem? (i := 43) rfl))) (Or.inr (hw _ (List.mem_of_getElem? (i := 37) rfl))) (by decide) (t := .object "java/lang/RuntimeException") (t' := .object "java/util/List") (by decide) (by decide)))
  have Z2 : n0 ≤ h2.size := by rw [W2.size]; exact Z0
  have K2 : Keep h0 h2 [a] := K0.wr W2 (Or.inl (List.mem_of_getElem? (i := 0) rfl))
  have N2 := Fr.snoc X2 N0 g_a
  refine own_st st2 ?_
  show own_Go p e below _ T2 (mkF m 9 #[rv a, rv r, iv 0, .val (.long 0), .second, .val .null] [])
  refine own_st (fun _ k => XS.aloadN X2.here hx rfl (hb hby own_ds_9) rfl rfl k) ?_
  show own_Go p e below _ T2 (mkF m 10 #[rv a, rv r, iv 0, .val (.long 0), .second, .val .null] [(.ref a)])
  refine own_st (fun _ k => XS.iloadN X2.here hx rfl (hb hby own_ds_10) rfl k) ?_
  show own_Go p e below _ T2 (mkF m 11 #[rv a, rv r, iv 0, .val (.long 0), .second, .val .null] [(.int 0), (.ref a)])
  obtain ⟨T3, h3, X3, e3, W3, st3⟩ := putF X2 hx hZ hown (host := "") (Or.inl (hw _ (List.mem_of_getElem? (i := 38) rfl))) Via.refl e2 F2_asked_a E2_a (Or.inr ⟨(hw _ (List.mem_of_getElem? (i := 39) rfl)), rfl, hnm⟩) (hw _ (List.mem_of_getElem? (i := 31) rfl)) (ty := .int) (by decide) rfl rfl (g := (mkF m 11 #[rv a, rv r, iv 0, .val (.long 0), .second, .val .null] [(.int 0), (.ref a)])) rfl rfl (hb hby own_ds_11)
  have E3_a := E2_a.wr W3
  have F3_reply_a := F2_reply_a.other W3 (Or.inr (slot_ne (Or.inr (hw _ (List.mem_of_getElem? (i := 37) rfl))) (Or.inr (hw _ (List.mem_of_getElem? (i := 39) rfl))) (by decide) (t := .object "java/util/List") (t' := .int) (by decide) (by decide)))
  have F3_asked_a := F2_asked_a.same W3
  have F3_acknowledged_a := F2_acknowledged_a.other W3 (Or.inr (slot_ne (Or.inr (hw _ (List.mem_of_getElem? (i := 41) rfl))) (Or.inr (hw _ (List.mem_of_getElem? (i := 39) rfl))) (by decide) (t := .long) (t' := .int) (by decide) (by decide)))
  have F3_failure_a := F2_failure_a.other W3 (Or.inr (slot_ne (Or.inr (hw _ (List.mem_of_getElem? (i := 43) rfl))) (Or.inr (hw _ (List.mem_of_getElem? (i := 39) rfl))) (by decide) (t := .object "java/lang/RuntimeException") (t' := .int) (by decide) (by decide)))
  have Z3 : n0 ≤ h3.size := by rw [W3.size]; exact Z2
  have K3 : Keep h0 h3 [a] := K2.wr W3 (Or.inl (List.mem_of_getElem? (i := 0) rfl))
  have N3 := Fr.snoc X3 N2 g_a
  refine own_st st3 ?_
  show own_Go p e below _ T3 (mkF m 14 #[rv a, rv r, iv 0, .val (.long 0), .second, .val .null] [])
  refine own_st (fun _ k => XS.aloadN X3.here hx rfl (hb hby own_ds_14) rfl rfl k) ?_
  show own_Go p e below _ T3 (mkF m 15 #[rv a, rv r, iv 0, .val (.long 0), .second, .val .null] [(.ref a)])
  refine own_st (fun _ k => XT.lloadN X3.here hx rfl (hb hby own_ds_15) rfl k) ?_
  show own_Go p e below _ T3 (mkF m 16 #[rv a, rv r, iv 0, .val (.long 0), .second, .val .null] [(.long 0), (.ref a)])
  obtain ⟨T4, h4, X4, e4, W4, st4⟩ := putF X3 hx hZ hown (host := "") (Or.inl (hw _ (List.mem_of_getElem? (i := 40) rfl))) Via.refl e3 F3_acknowledged_a E3_a (Or.inr ⟨(hw _ (List.mem_of_getElem? (i := 41) rfl)), rfl, hnm⟩) (hw _ (List.mem_of_getElem? (i := 31) rfl)) (ty := .long) (by decide) rfl rfl (g := (mkF m 16 #[rv a, rv r, iv 0, .val (.long 0), .second, .val .null] [(.long 0), (.ref a)])) rfl rfl (hb hby own_ds_16)
  have E4_a := E3_a.wr W4
  have F4_reply_a := F3_reply_a.other W4 (Or.inr (slot_ne (Or.inr (hw _ (List.mem_of_getElem? (i := 37) rfl))) (Or.inr (hw _ (List.mem_of_getElem? (i := 41) rfl))) (by decide) (t := .object "java/util/List") (t' := .long) (by decide) (by decide)))
  have F4_asked_a := F3_asked_a.other W4 (Or.inr (slot_ne (Or.inr (hw _ (List.mem_of_getElem? (i := 39) rfl))) (Or.inr (hw _ (List.mem_of_getElem? (i := 41) rfl))) (by decide) (t := .int) (t' := .long) (by decide) (by decide)))
  have F4_acknowledged_a := F3_acknowledged_a.same W4
  have F4_failure_a := F3_failure_a.other W4 (Or.inr (slot_ne (Or.inr (hw _ (List.mem_of_getElem? (i := 43) rfl))) (Or.inr (hw _ (List.mem_of_getElem? (i := 41) rfl))) (by decide) (t := .object "java/lang/RuntimeException") (t' := .long) (by decide) (by decide)))
  have Z4 : n0 ≤ h4.size := by rw [W4.size]; exact Z3
  have K4 : Keep h0 h4 [a] := K3.wr W4 (Or.inl (List.mem_of_getElem? (i := 0) rfl))
  have N4 := Fr.snoc X4 N3 g_a
  refine own_st st4 ?_
  show own_Go p e below _ T4 (mkF m 19 #[rv a, rv r, iv 0, .val (.long 0), .second, .val .null] [])
  refine own_st (fun _ k => XS.aloadN X4.here hx rfl (hb hby own_ds_19) rfl rfl k) ?_
  show own_Go p e below _ T4 (mkF m 20 #[rv a, rv r, iv 0, .val (.long 0), .second, .val .null] [(.ref a)])
  refine own_st (fun _ k => XS.aload X4.here hx rfl (hb hby own_ds_20) rfl rfl k) ?_
  show own_Go p e below _ T4 (mkF m 22 #[rv a, rv r, iv 0, .val (.long 0), .second, .val .null] [.null, (.ref a)])
  obtain ⟨T5, h5, X5, e5, W5, st5⟩ := putF X4 hx hZ hown (host := "") (Or.inl (hw _ (List.mem_of_getElem? (i := 42) rfl))) Via.refl e4 F4_failure_a E4_a (Or.inr ⟨(hw _ (List.mem_of_getElem? (i := 43) rfl)), rfl, hnm⟩) (hw _ (List.mem_of_getElem? (i := 31) rfl)) (ty := .object "java/lang/RuntimeException") (by decide) rfl rfl (g := (mkF m 22 #[rv a, rv r, iv 0, .val (.long 0), .second, .val .null] [.null, (.ref a)])) rfl rfl (hb hby own_ds_22)
  have E5_a := E4_a.wr W5
  have F5_reply_a := F4_reply_a.other W5 (Or.inr (slot_ne (Or.inr (hw _ (List.mem_of_getElem? (i := 37) rfl))) (Or.inr (hw _ (List.mem_of_getElem? (i := 43) rfl))) (by decide) (t := .object "java/util/List") (t' := .object "java/lang/RuntimeException") (by decide) (by decide)))
  have F5_asked_a := F4_asked_a.other W5 (Or.inr (slot_ne (Or.inr (hw _ (List.mem_of_getElem? (i := 39) rfl))) (Or.inr (hw _ (List.mem_of_getElem? (i := 43) rfl))) (by decide) (t := .int) (t' := .object "java/lang/RuntimeException") (by decide) (by decide)))
  have F5_acknowledged_a := F4_acknowledged_a.other W5 (Or.inr (slot_ne (Or.inr (hw _ (List.mem_of_getElem? (i := 41) rfl))) (Or.inr (hw _ (List.mem_of_getElem? (i := 43) rfl))) (by decide) (t := .long) (t' := .object "java/lang/RuntimeException") (by decide) (by decide)))
  have F5_failure_a := F4_failure_a.same W5
  have Z5 : n0 ≤ h5.size := by rw [W5.size]; exact Z4
  have K5 : Keep h0 h5 [a] := K4.wr W5 (Or.inl (List.mem_of_getElem? (i := 0) rfl))
  have N5 := Fr.snoc X5 N4 g_a
  refine own_st st5 ?_
  show own_Go p e below _ T5 (mkF m 25 #[rv a, rv r, iv 0, .val (.long 0), .second, .val .null] [])
  refine own_ret X5 hx Bd.notSynchronized Bd.returns (hb hby own_ds_25) (by decide) (by decide) ?_
  rw [e5]
  exact ⟨rfl, N5, K5, F5_reply_a, F5_asked_a, F5_acknowledged_a, F5_failure_a⟩
theorem own_ef_nota (m : MethodId) (x0 : Addr) : entryFrame m #[(.ref x0)] 1 = mkF m 0 #[.val (.ref x0)] [] := by first | (simp [entryFrame, mkF, argsToLocals, Value.category]; done) | rfl
def own_Q_nota (Z : State) (r : Addr) (h0 : Heap) (n0 : Nat) (v : Option Value) (h : Heap) (L : List Loc) : Prop := ∃ a, v = some (.ref a) ∧ Fr n0 L ∧ Keep h0 h [] ∧ Exa Z h a "com/example/limpet/limpet/RedisBackend$Acknowledged" ∧ Fld Z h a "com/example/limpet/limpet/RedisBackend$Acknowledged" "reply" "Ljava/util/List;" (.ref r) ∧ Fld Z h a "com/example/limpet/limpet/RedisBackend$Acknowledged" "asked" "I" (.int (0 : Int32)) ∧ Fld Z h a "com/example/limpet/limpet/RedisBackend$Acknowledged" "acknowledged" "J" (.long (0 : Int64)) ∧ Fld Z h a "com/example/limpet/limpet/RedisBackend$Acknowledged" "failure" "Ljava/lang/RuntimeException;" .null
set_option maxRecDepth 65536 in
set_option maxHeartbeats 40000000 in
theorem own_rm_nota (l : Launch) (Z : State) (a0 : Array Value) (hw : ∀ d ∈ tables_1, d.before a0 Z = true) (ws : List Jvm.Cond) (r : Addr) (h0 : Heap) (n0 : Nat) (Z0 : n0 ≤ h0.size)  :
    MetFree l (⟨"com/example/limpet/limpet/RedisBackend$Acknowledged", "notAsked", "(Ljava/util/List;)Lcom/example/limpet/limpet/RedisBackend$Acknowledged;"⟩ : MethodName) (head1 (Jvm.Cond.code (⟨"com/example/limpet/limpet/RedisBackend$Acknowledged", "notAsked", "(Ljava/util/List;)Lcom/example/limpet/limpet/RedisBackend$Acknowledged;"⟩ : MethodName) prog_15_method_2_code 1 (some (.object "com/example/limpet/limpet/RedisBackend$Acknowledged")) :: ws) ({ frames := 2, cells := 1, slots := 4, locals := 30 } : Room)) (fun zz U => zz = #[(.ref r)] ∧ Z.Warmed39 U.vm ∧ U.heap = h0) (fun _ _ _ _ _ => True) (fun _ U zo U' => ∃ v L, zo = .returned v ∧ own_Q_nota Z r h0 n0 v U'.heap L ∧ FrameEnd U zo U' L ({ frames := 2, cells := 1, slots := 4, locals := 30 } : Room).cells ({ frames := 2, cells := 1, slots := 4, locals := 30 } : Room).slots) := by
  refine MetFree.of_bodySF (plainFor_of_name own_pn7) hisR ?_
  intro p e s m args below meth c s₁ Bd hml0 hP hK
  obtain ⟨rfl, hZ, hh⟩ := hP
  have hx := Bd.exec
  have hby := Bd.bytes
  have hml : c.maxLocals = 1 := hml0
  have hown : s.vm.findClass "com/example/limpet/limpet/RedisBackend$Acknowledged" = some m.cls := findClass_of_methodNamed Bd.named
  have hnm := (name_of_methodNamed Bd.named Bd.method).1
  have X0 : Stand p l e ({ frames := 2, cells := 1, slots := 4, locals := 30 } : Room) s m #[(.ref r)] below meth c s₁ [] 0 0 := Stand.of_body Bd
  have e0 : s₁.heap = h0 := by rw [← hh, Bd.state]; rfl
  have N0 := Fr.nil n0
  show own_Go p e below (own_K s (own_Q_nota Z r h0 n0) ({ frames := 2, cells := 1, slots := 4, locals := 30 } : Room).cells ({ frames := 2, cells := 1, slots := 4, locals := 30 } : Room).slots) s₁ (entryFrame m #[(.ref r)] 1)
  rw [own_ef_nota m r]
  show own_Go p e below _ s₁ (mkF m 0 #[rv r] [])
  have K0 : Keep h0 h0 [] := Keep.refl _ _
  obtain ⟨T1, h1, X1, e1, x1, A1, D1, -, st1⟩ := newO X0 hx hZ hown (hw _ (List.mem_of_getElem? (i := 30) rfl)) (hw _ (List.mem_of_getElem? (i := 31) rfl)) (hw _ (List.mem_of_getElem? (i := 28) rfl)) e0 (g := (mkF m 0 #[rv r] [])) rfl (hb hby own_dr_0) (by decide) (by decide)
  obtain ⟨k1, g1⟩ : ∃ z, z = h0.size := ⟨_, rfl⟩
  rw [← g1] at A1 D1 st1
  have g_k1 : n0 ≤ k1 := g1 ▸ Z0
  have sz_k1 : h0.size ≤ k1 := g1 ▸ K0.1
  have Z1 : n0 ≤ h1.size := Nat.le_trans Z0 x1.1
  have K1 : Keep h0 h1 [] := K0.ext x1
  have F1_reply_k1 : Fld Z h1 k1 "com/example/limpet/limpet/RedisBackend$Acknowledged" "reply" "Ljava/util/List;" .null := D1 (Or.inr (hw _ (List.mem_of_getElem? (i := 37) rfl))) (ty := .object "java/util/List") (by decide)
  have F1_asked_k1 : Fld Z h1 k1 "com/example/limpet/limpet/RedisBackend$Acknowledged" "asked" "I" (.int (0 : Int32)) := D1 (Or.inr (hw _ (List.mem_of_getElem? (i := 39) rfl))) (ty := .int) (by decide)
  have F1_acknowledged_k1 : Fld Z h1 k1 "com/example/limpet/limpet/RedisBackend$Acknowledged" "acknowledged" "J" (.long (0 : Int64)) := D1 (Or.inr (hw _ (List.mem_of_getElem? (i := 41) rfl))) (ty := .long) (by decide)
  have F1_failure_k1 : Fld Z h1 k1 "com/example/limpet/limpet/RedisBackend$Acknowledged" "failure" "Ljava/lang/RuntimeException;" .null := D1 (Or.inr (hw _ (List.mem_of_getElem? (i := 43) rfl))) (ty := .object "java/lang/RuntimeException") (by decide)
  refine own_st st1 ?_
  show own_Go p e below _ T1 (mkF m 3 #[rv r] [(.ref k1)])
  refine own_st (fun _ k => XS.dup X1.here hx rfl (hb hby own_dr_3) rfl rfl k) ?_
  show own_Go p e below _ T1 (mkF m 4 #[rv r] [(.ref k1), (.ref k1)])
  refine own_st (fun _ k => XS.aloadN X1.here hx rfl (hb hby own_dr_4) rfl rfl k) ?_
  show own_Go p e below _ T1 (mkF m 5 #[rv r] [(.ref r), (.ref k1), (.ref k1)])
  refine own_st (fun _ k => XT.iconstV X1.here hx rfl (0 : Int32) (hb hby own_dr_5) (by decide) k) ?_
  show own_Go p e below _ T1 (mkF m 6 #[rv r] [(.int 0), (.ref r), (.ref k1), (.ref k1)])
  refine own_st (fun _ k => XT.lconstV X1.here hx rfl (0 : Int64) (hb hby own_dr_6) (by decide) k) ?_
  show own_Go p e below _ T1 (mkF m 7 #[rv r] [(.long 0), (.int 0), (.ref r), (.ref k1), (.ref k1)])
  refine own_st (fun _ k => XS.aconstNull X1.here hx rfl (hb hby own_dr_7) k) ?_
  show own_Go p e below _ T1 (mkF m 8 #[rv r] [.null, (.long 0), (.int 0), (.ref r), (.ref k1), (.ref k1)])
  obtain ⟨_, _, ⟨T2, L2, k2, n2⟩, -, X2, ⟨Lc2, hQ2, l2, y2, z2⟩, st2⟩ := X1.specialBack hx (y := (⟨"com/example/limpet/limpet/RedisBackend$Acknowledged", "<init>", "(Ljava/util/List;IJLjava/lang/RuntimeException;)V"⟩ : MethodName)) rfl hown (mvT hZ (hw _ (List.mem_of_getElem? (i := 32) rfl))) (mvT hZ (hw _ (List.mem_of_getElem? (i := 33) rfl))) (mvT hZ (hw _ (List.mem_of_getElem? (i := 34) rfl))) (by decide) (backOf (W := 1) (own_rm_aki l Z a0 hw [] k1 r h1 n0 Z1 A1 F1_reply_k1 F1_asked_k1 F1_acknowledged_k1 F1_failure_k1 g_k1) hZ (hw _ (List.mem_of_getElem? (i := 34) rfl)) (hw _ (List.mem_of_getElem? (i := 28) rfl)) (by decide) (by decide)) (g := (mkF m 8 #[rv r] [.null, (.long 0), (.int 0), (.ref r), (.ref k1), (.ref k1)])) rfl (by rw [hml]; rfl) (Steps.refl _) (a := k1) (argsL := [(.ref r), (.int (0 : Int32)), (.long (0 : Int64)), .null]) (rest := [(.ref k1)]) (lenOf own_pd8 rfl) rfl (by show 2 * 0 + _ ≤ _; exact Nat.le_of_eq rfl) (hb hby own_dr_8) (fun _ _ => ⟨rfl, e1, (by decide : 1 + 0 ≤ _), (by decide : 4 + 0 ≤ _)⟩)
  dsimp only [Pt.U, Pt.locs, Pt.cells, Pt.slots] at X2 l2 y2 z2 st2 hQ2
  subst l2 y2 z2
  obtain ⟨rfl, N2, KC2, Fr2, Fa2, Fc2, Fx2⟩ := hQ2
  have M2 := Fr.app N0 N2
  refine own_tr st2 ?_
  show own_Go p e below _ T2 (mkF m 11 #[rv r] [(.ref k1)])
  have E2_k1 := A1.keep KC2
  have Z2 : n0 ≤ T2.heap.size := Nat.le_trans Z1 KC2.1
  have KK2 : Keep h0 T2.heap [] := K1.trans KC2 (allS (Or.inr sz_k1) all0)
  refine own_retA X2 hx Bd.notSynchronized Bd.returns rfl rfl (hb hby own_dr_11) (by decide) (by decide) ?_
  exact ⟨k1, rfl, M2, KK2, E2_k1, Fr2, Fa2, Fc2, Fx2⟩
theorem own_ef_grep (m : MethodId) (x0 : Addr) : entryFrame m #[(.ref x0)] 1 = mkF m 0 #[.val (.ref x0)] [] := by first | (simp [entryFrame, mkF, argsToLocals, Value.category]; done) | rfl
def own_Q_grep (Z : State) (a : Addr) (r : Addr) (h0 : Heap) (n0 : Nat) (v : Option Value) (h : Heap) (L : List Loc) : Prop := v = some (.ref r) ∧ Fr n0 L ∧ h = h0
set_option maxRecDepth 65536 in
set_option maxHeartbeats 40000000 in
theorem own_rm_grep (l : Launch) (Z : State) (a0 : Array Value) (hw : ∀ d ∈ tables_1, d.before a0 Z = true) (ws : List Jvm.Cond) (a : Addr) (r : Addr) (h0 : Heap) (n0 : Nat) (Z0 : n0 ≤ h0.size) (F : Fld Z h0 a "com/example/limpet/limpet/RedisBackend$Acknowledged" "reply" "Ljava/util/List;" (.ref r)) :
    MetFree l (⟨"com/example/limpet/limpet/RedisBackend$Acknowledged", "reply", "()Ljava/util/List;"⟩ : MethodName) (head1 (Jvm.Cond.code (⟨"com/example/limpet/limpet/RedisBackend$Acknowledged", "reply", "()Ljava/util/List;"⟩ : MethodName) prog_15_method_3_code 1 (some (.object "java/util/List")) :: ws) ({ frames := 0, cells := 0, slots := 0, locals := 0 } : Room)) (fun zz U => zz = #[(.ref a)] ∧ Z.Warmed39 U.vm ∧ U.heap = h0) (fun _ _ _ _ _ => True) (fun _ U zo U' => ∃ v L, zo = .returned v ∧ own_Q_grep Z a r h0 n0 v U'.heap L ∧ FrameEnd U zo U' L ({ frames := 0, cells := 0, slots := 0, locals := 0 } : Room).cells ({ frames := 0, cells := 0, slots := 0, locals := 0 } : Room).slots) := by
  refine MetFree.of_bodySF (plainFor_of_name own_pn7) hisR ?_
  intro p e s m args below meth c s₁ Bd hml0 hP hK
  obtain ⟨rfl, hZ, hh⟩ := hP
  have hx := Bd.exec
  have hby := Bd.bytes
  have hml : c.maxLocals = 1 := hml0
  have hown : s.vm.findClass "com/example/limpet/limpet/RedisBackend$Acknowledged" = some m.cls := findClass_of_methodNamed Bd.named
  have hnm := (name_of_methodNamed Bd.named Bd.method).1
  have X0 : Stand p l e ({ frames := 0, cells := 0, slots := 0, locals := 0 } : Room) s m #[(.ref a)] below meth c s₁ [] 0 0 := Stand.of_body Bd
  have e0 : s₁.heap = h0 := by rw [← hh, Bd.state]; rfl
  have N0 := Fr.nil n0
  show own_Go p e below (own_K s (own_Q_grep Z a r h0 n0) ({ frames := 0, cells := 0, slots := 0, locals := 0 } : Room).cells ({ frames := 0, cells := 0, slots := 0, locals := 0 } : Room).slots) s₁ (entryFrame m #[(.ref a)] 1)
  rw [own_ef_grep m a]
  show own_Go p e below _ s₁ (mkF m 0 #[rv a] [])
  refine own_st (fun _ k => XS.aloadN X0.here hx rfl (hb hby own_dt_0) rfl rfl k) ?_
  show own_Go p e below _ s₁ (mkF m 1 #[rv a] [(.ref a)])
  obtain ⟨T1, X1, e1, st1⟩ := getF X0 hx hZ hown (host := "") (Or.inl (hw _ (List.mem_of_getElem? (i := 36) rfl))) Via.refl e0 F (g := (mkF m 1 #[rv a] [(.ref a)])) rfl rfl (hb hby own_dt_1)
  refine own_st st1 ?_
  show own_Go p e below _ T1 (mkF m 4 #[rv a] [(.ref r)])
  refine own_retA X1 hx Bd.notSynchronized Bd.returns rfl rfl (hb hby own_dt_4) (by decide) (by decide) ?_
  rw [e1]
  exact ⟨rfl, N0, rfl⟩
theorem own_ef_gask (m : MethodId) (x0 : Addr) : entryFrame m #[(.ref x0)] 1 = mkF m 0 #[.val (.ref x0)] [] := by first | (simp [entryFrame, mkF, argsToLocals, Value.category]; done) | rfl
def own_Q_gask (Z : State) (a : Addr) (h0 : Heap) (n0 : Nat) (v : Option Value) (h : Heap) (L : List Loc) : Prop := v = some (.int (0 : Int32)) ∧ Fr n0 L ∧ h = h0
set_option maxRecDepth 65536 in
set_option maxHeartbeats 40000000 in
theorem own_rm_gask (l : Launch) (Z : State) (a0 : Array Value) (hw : ∀ d ∈ tables_1, d.before a0 Z = true) (ws : List Jvm.Cond) (a : Addr) (h0 : Heap) (n0 : Nat) (Z0 : n0 ≤ h0.size) (F : Fld Z h0 a "com/example/limpet/limpet/RedisBackend$Acknowledged" "asked" "I" (.int (0 : Int32))) :
    MetFree l (⟨"com/example/limpet/limpet/RedisBackend$Acknowledged", "asked", "()I"⟩ : MethodName) (head1 (Jvm.Cond.code (⟨"com/example/limpet/limpet/RedisBackend$Acknowledged", "asked", "()I"⟩ : MethodName) prog_15_method_5_code 1 (some .int) :: ws) ({ frames := 0, cells := 0, slots := 0, locals := 0 } : Room)) (fun zz U => zz = #[(.ref a)] ∧ Z.Warmed39 U.vm ∧ U.heap = h0) (fun _ _ _ _ _ => True) (fun _ U zo U' => ∃ v L, zo = .returned v ∧ own_Q_gask Z a h0 n0 v U'.heap L ∧ FrameEnd U zo U' L ({ frames := 0, cells := 0, slots := 0, locals := 0 } : Room).cells ({ frames := 0, cells := 0, slots := 0, locals := 0 } : Room).slots) := by
  refine MetFree.of_bodySF (plainFor_of_name own_pn7) hisR ?_
  intro p e s m args below meth c s₁ Bd hml0 hP hK
  obtain ⟨rfl, hZ, hh⟩ := hP
  have hx := Bd.exec
  have hby := Bd.bytes
  have hml : c.maxLocals = 1 := hml0
  have hown : s.vm.findClass "com/example/limpet/limpet/RedisBackend$Acknowledged" = some m.cls := findClass_of_methodNamed Bd.named
  have hnm := (name_of_methodNamed Bd.named Bd.method).1
  have X0 : Stand p l e ({ frames := 0, cells := 0, slots := 0, locals := 0 } : Room) s m #[(.ref a)] below meth c s₁ [] 0 0 := Stand.of_body Bd
  have e0 : s₁.heap = h0 := by rw [← hh, Bd.state]; rfl
  have N0 := Fr.nil n0
  show own_Go p e below (own_K s (own_Q_gask Z a h0 n0) ({ frames := 0, cells := 0, slots := 0, locals := 0 } : Room).cells ({ frames := 0, cells := 0, slots := 0, locals := 0 } : Room).slots) s₁ (entryFrame m #[(.ref a)] 1)
  rw [own_ef_gask m a]
  show own_Go p e below _ s₁ (mkF m 0 #[rv a] [])
  refine own_st (fun _ k => XS.aloadN X0.here hx rfl (hb hby own_du_0) rfl rfl k) ?_
  show own_Go p e below _ s₁ (mkF m 1 #[rv a] [(.ref a)])
  obtain ⟨T1, X1, e1, st1⟩ := getF X0 hx hZ hown (host := "") (Or.inl (hw _ (List.mem_of_getElem? (i := 38) rfl))) Via.refl e0 F (g := (mkF m 1 #[rv a] [(.ref a)])) rfl rfl (hb hby own_du_1)
  refine own_st st1 ?_
  show own_Go p e below _ T1 (mkF m 4 #[rv a] [(.int 0)])
  refine own_retI X1 hx Bd.notSynchronized Bd.returns (hb hby own_du_4) (by decide) (by decide) ?_
  rw [e1]
  exact ⟨rfl, N0, rfl⟩
theorem own_ef_gack (m : MethodId) (x0 : Addr) : entryFrame m #[(.ref x0)] 1 = mkF m 0 #[.val (.ref x0)] [] := by first | (simp [entryFrame, mkF, argsToLocals, Value.category]; done) | rfl
def own_Q_gack (Z : State) (a : Addr) (h0 : Heap) (n0 : Nat) (v : Option Value) (h : Heap) (L : List Loc) : Prop := v = some (.long (0 : Int64)) ∧ Fr n0 L ∧ h = h0
set_option maxRecDepth 65536 in
set_option maxHeartbeats 40000000 in
theorem own_rm_gack (l : Launch) (Z : State) (a0 : Array Value) (hw : ∀ d ∈ tables_1, d.before a0 Z = true) (ws : List Jvm.Cond) (a : Addr) (h0 : Heap) (n0 : Nat) (Z0 : n0 ≤ h0.size) (F : Fld Z h0 a "com/example/limpet/limpet/RedisBackend$Acknowledged" "acknowledged" "J" (.long (0 : Int64))) :
    MetFree l (⟨"com/example/limpet/limpet/RedisBackend$Acknowledged", "acknowledged", "()J"⟩ : MethodName) (head1 (Jvm.Cond.code (⟨"com/example/limpet/limpet/RedisBackend$Acknowledged", "acknowledged", "()J"⟩ : MethodName) prog_15_method_6_code 1 (some .long) :: ws) ({ frames := 0, cells := 0, slots := 0, locals := 0 } : Room)) (fun zz U => zz = #[(.ref a)] ∧ Z.Warmed39 U.vm ∧ U.heap = h0) (fun _ _ _ _ _ => True) (fun _ U zo U' => ∃ v L, zo = .returned v ∧ own_Q_gack Z a h0 n0 v U'.heap L ∧ FrameEnd U zo U' L ({ frames := 0, cells := 0, slots := 0, locals := 0 } : Room).cells ({ frames := 0, cells := 0, slots := 0, locals := 0 } : Room).slots) := by
  refine MetFree.of_bodySF (plainFor_of_name own_pn7) hisR ?_
  intro p e s m args below meth c s₁ Bd hml0 hP hK
  obtain ⟨rfl, hZ, hh⟩ := hP
  have hx := Bd.exec
  have hby := Bd.bytes
  have hml : c.maxLocals = 1 := hml0
  have hown : s.vm.findClass "com/example/limpet/limpet/RedisBackend$Acknowledged" = some m.cls := findClass_of_methodNamed Bd.named
  have hnm := (name_of_methodNamed Bd.named Bd.method).1
  have X0 : Stand p l e ({ frames := 0, cells := 0, slots := 0, locals := 0 } : Room) s m #[(.ref a)] below meth c s₁ [] 0 0 := Stand.of_body Bd
  have e0 : s₁.heap = h0 := by rw [← hh, Bd.state]; rfl
  have N0 := Fr.nil n0
  show own_Go p e below (own_K s (own_Q_gack Z a h0 n0) ({ frames := 0, cells := 0, slots := 0, locals := 0 } : Room).cells ({ frames := 0, cells := 0, slots := 0, locals := 0 } : Room).slots) s₁ (entryFrame m #[(.ref a)] 1)
  rw [own_ef_gack m a]
  show own_Go p e below _ s₁ (mkF m 0 #[rv a] [])
  refine own_st (fun _ k => XS.aloadN X0.here hx rfl (hb hby own_dv_0) rfl rfl k) ?_
  show own_Go p e below _ s₁ (mkF m 1 #[rv a] [(.ref a)])
  obtain ⟨T1, X1, e1, st1⟩ := getF X0 hx hZ hown (host := "") (Or.inl (hw _ (List.mem_of_getElem? (i := 40) rfl))) Via.refl e0 F (g := (mkF m 1 #[rv a] [(.ref a)])) rfl rfl (hb hby own_dv_1)
  refine own_st st1 ?_
  show own_Go p e below _ T1 (mkF m 4 #[rv a] [(.long 0)])
  refine own_retL X1 hx Bd.notSynchronized Bd.returns (hb hby own_dv_4) (by decide) (by decide) ?_
  rw [e1]
  exact ⟨rfl, N0, rfl⟩
theorem own_ef_gfail (m : MethodId) (x0 : Addr) : entryFrame m #[(.ref x0)] 1 = mkF m 0 #[.val (.ref x0)] [] := by first | (simp [entryFrame, mkF, argsToLocals, Value.category]; done) | rfl
def own_Q_gfail (Z : State) (a : Addr) (h0 : Heap) (n0 : Nat) (v : Option Value) (h : Heap) (L : List Loc) : Prop := v = some .null ∧ Fr n0 L ∧ h = h0
set_option maxRecDepth 65536 in
set_option maxHeartbeats 40000000 in
theorem own_rm_gfail (l : Launch) (Z : State) (a0 : Array Value) (hw : ∀ d ∈ tables_1, d.before a0 Z = true) (ws : List Jvm.Cond) (a : Addr) (h0 : Heap) (n0 : Nat) (Z0 : n0 ≤ h0.size) (F : Fld Z h0 a "com/example/limpet/limpet/RedisBackend$Acknowledged" "failure" "Ljava/lang/RuntimeException;" .null) :
    MetFree l (⟨"com/example/limpet/limpet/RedisBackend$Acknowledged", "failure", "()Ljava/lang/RuntimeException;"⟩ : MethodName) (head1 (Jvm.Cond.code (⟨"com/example/limpet/limpet/RedisBackend$Acknowledged", "failure", "()Ljava/lang/RuntimeException;"⟩ : MethodName) prog_15_method_7_code 1 (some (.object "java/lang/RuntimeException")) :: ws) ({ frames := 0, cells := 0, slots := 0, locals := 0 } : Room)) (fun zz U => zz = #[(.ref a)] ∧ Z.Warmed39 U.vm ∧ U.heap = h0) (fun _ _ _ _ _ => True) (fun _ U zo U' => ∃ v L, zo = .returned v ∧ own_Q_gfail Z a h0 n0 v U'.heap L ∧ FrameEnd U zo U' L ({ frames := 0, cells := 0, slots := 0, locals := 0 } : Room).cells ({ frames := 0, cells := 0, slots := 0, locals := 0 } : Room).slots) := by
  refine MetFree.of_bodySF (plainFor_of_name own_pn7) hisR ?_
  intro p e s m args below meth c s₁ Bd hml0 hP hK
  obtain ⟨rfl, hZ, hh⟩ := hP
  have hx := Bd.exec
  have hby := Bd.bytes
  have hml : c.maxLocals = 1 := hml0
  have hown : s.vm.findClass "com/example/limpet/limpet/RedisBackend$Acknowledged" = some m.cls := findClass_of_methodNamed Bd.named
  have hnm := (name_of_methodNamed Bd.named Bd.method).1
  have X0 : Stand p l e ({ frames := 0, cells := 0, slots := 0, locals := 0 } : Room) s m #[(.ref a)] below meth c s₁ [] 0 0 := Stand.of_body Bd
  have e0 : s₁.heap = h0 := by rw [← hh, Bd.state]; rfl
  have N0 := Fr.nil n0
  show own_Go p e below (own_K s (own_Q_gfail Z a h0 n0) ({ frames := 0, cells := 0, slots := 0, locals := 0 } : Room).cells ({ frames := 0, cells := 0, slots := 0, locals := 0 } : Room).slots) s₁ (entryFrame m #[(.ref a)] 1)
  rw [own_ef_gfail m a]
  show own_Go p e below _ s₁ (mkF m 0 #[rv a] [])
  refine own_st (fun _ k => XS.aloadN X0.here hx rfl (hb hby own_dw_0) rfl rfl k) ?_
  show own_Go p e below _ s₁ (mkF m 1 #[rv a] [(.ref a)])
  obtain ⟨T1, X1, e1, st1⟩ := getF X0 hx hZ hown (host := "") (Or.inl (hw _ (List.mem_of_getElem? (i := 42) rfl))) Via.refl e0 F (g := (mkF m 1 #[rv a] [(.ref a)])) rfl rfl (hb hby own_dw_1)
  refine own_st st1 ?_
  show own_Go p e below _ T1 (mkF m 4 #[rv a] [.null])
  refine own_retA X1 hx Bd.notSynchronized Bd.returns rfl rfl (hb hby own_dw_4) (by decide) (by decide) ?_
  rw [e1]
  exact ⟨rfl, N0, rfl⟩
theorem own_ef_gcnt (m : MethodId) (x0 : Addr) : entryFrame m #[(.ref x0)] 1 = mkF m 0 #[.val (.ref x0)] [] := by first | (simp [entryFrame, mkF, argsToLocals, Value.category]; done) | rfl
def own_Q_gcnt (Z : State) (a : Addr) (h0 : Heap) (n0 : Nat) (v : Option Value) (h : Heap) (L : List Loc) : Prop := v = some (.int 1) ∧ Fr n0 L ∧ h = h0
set_option maxRecDepth 65536 in
set_option maxHeartbeats 40000000 in
theorem own_rm_gcnt (l : Launch) (Z : State) (a0 : Array Value) (hw : ∀ d ∈ tables_1, d.before a0 Z = true) (ws : List Jvm.Cond) (a : Addr) (h0 : Heap) (n0 : Nat) (Z0 : n0 ≤ h0.size) (F : Fld Z h0 a "com/example/limpet/limpet/RedisBackend$Acknowledged" "asked" "I" (.int (0 : Int32))) :
    MetFree l (⟨"com/example/limpet/limpet/RedisBackend$Acknowledged", "counts", "()Z"⟩ : MethodName) (head1 (Jvm.Cond.code (⟨"com/example/limpet/limpet/RedisBackend$Acknowledged", "counts", "()Z"⟩ : MethodName) prog_15_method_4_code 1 (some .boolean) :: ws) ({ frames := 0, cells := 0, slots := 0, locals := 0 } : Room)) (fun zz U => zz = #[(.ref a)] ∧ Z.Warmed39 U.vm ∧ U.heap = h0) (fun _ _ _ _ _ => True) (fun _ U zo U' => ∃ v L, zo = .returned v ∧ own_Q_gcnt Z a h0 n0 v U'.heap L ∧ FrameEnd U zo U' L ({ frames := 0, cells := 0, slots := 0, locals := 0 } : Room).cells ({ frames := 0, cells := 0, slots := 0, locals := 0 } : Room).slots) := by
  refine MetFree.of_bodySF (plainFor_of_name own_pn7) hisR ?_
  intro p e s m args below meth c s₁ Bd hml0 hP hK
  obtain ⟨rfl, hZ, hh⟩ := hP
  have hx := Bd.exec
  have hby := Bd.bytes
  have hml : c.maxLocals = 1 := hml0
  have hown : s.vm.findClass "com/example/limpet/limpet/RedisBackend$Acknowledged" = some m.cls := findClass_of_methodNamed Bd.named
  have hnm := (name_of_methodNamed Bd.named Bd.method).1
  have X0 : Stand p l e ({ frames := 0, cells := 0, slots := 0, locals := 0 } : Room) s m #[(.ref a)] below meth c s₁ [] 0 0 := Stand.of_body Bd
  have e0 : s₁.heap = h0 := by rw [← hh, Bd.state]; rfl
  have N0 := Fr.nil n0
  show own_Go p e below (own_K s (own_Q_gcnt Z a h0 n0) ({ frames := 0, cells := 0, slots := 0, locals := 0 } : Room).cells ({ frames := 0, cells := 0, slots := 0, locals := 0 } : Room).slots) s₁ (entryFrame m #[(.ref a)] 1)
  rw [own_ef_gcnt m a]
  show own_Go p e below _ s₁ (mkF m 0 #[rv a] [])
  refine own_st (fun _ k => XS.aloadN X0.here hx rfl (hb hby own_dx_0) rfl rfl k) ?_
  show own_Go p e below _ s₁ (mkF m 1 #[rv a] [(.ref a)])
  obtain ⟨T1, X1, e1, st1⟩ := getF X0 hx hZ hown (host := "") (Or.inl (hw _ (List.mem_of_getElem? (i := 38) rfl))) Via.refl e0 F (g := (mkF m 1 #[rv a] [(.ref a)])) rfl rfl (hb hby own_dx_1)
  refine own_st st1 ?_
  show own_Go p e below _ T1 (mkF m 4 #[rv a] [(.int 0)])
  refine own_st (fun _ k => XS.ifYes X1.here hx rfl (pc0 := 4) (pc' := 27) rfl (hb hby own_dx_4) rfl (XT.i0_eq_t rfl) (by decide) (by decide) k) ?_
  show own_Go p e below _ T1 (mkF m 27 #[rv a] [])
  refine own_st (fun _ k => XT.iconstV X1.here hx rfl (1 : Int32) (hb hby own_dx_27) (by decide) k) ?_
  show own_Go p e below _ T1 (mkF m 28 #[rv a] [(.int 1)])
  refine own_st (fun _ k => XS.goto X1.here hx rfl (pc0 := 28) (pc' := 32) rfl (hb hby own_dx_28) (by decide) (by decide) k) ?_
  show own_Go p e below _ T1 (mkF m 32 #[rv a] [(.int 1)])
  refine own_retN X1 hx Bd.notSynchronized (t := .boolean) Bd.returns (by simp) (hb hby own_dx_32) (by decide) (by decide) ?_
  rw [e1]
  exact ⟨rfl, N0, rfl⟩
theorem own_mask3 (x : Int32) : ∃ i : Int32, (x &&& (3 : Int32)) = i ∧ (i = 0 ∨ i = 1 ∨ i = 2 ∨ i = 3) := by
  have e1 : (x &&& (3 : Int32)).toInt = x.toInt % 2 ^ 2 := Jvm.Kit.i32_mask x 3 (k := 2) (by decide) (by decide)
  have e2 : (x &&& (3 : Int32)) = Int32.ofNat (x.toInt % 2 ^ 2).toNat := by
    apply Int32.toInt_inj.mp
    rw [e1, Int32.toInt_ofNat_of_lt (by omega)]
    omega
  refine ⟨_, e2, ?_⟩
  have hk' : (x.toInt % 2 ^ 2).toNat = 0 ∨ (x.toInt % 2 ^ 2).toNat = 1 ∨ (x.toInt % 2 ^ 2).toNat = 2 ∨ (x.toInt % 2 ^ 2).toNat = 3 := by omega
  rcases hk' with h | h | h | h <;> rw [h] <;> decide
theorem own_ef_law (m : MethodId) (x0 : Int32) (x1 : Int64) (x2 : Int64) (x3 : Int64) : entryFrame m #[(.int x0), (.long x1), (.long x2), (.long x3)] maxLocals = mkF m 0 #[.val (.int x0), .val (.long x1), .second, .val (.long x2), .second, .val (.long x3), .second, .unset, .unset, .unset, .unset] [] := by first | (simp [entryFrame, mkF, argsToLocals, Value.category, maxLocals]; done) | rfl
def own_Q_law (Z : State) (p0 : Int32) (xa : Int64) (xb : Int64) (xc : Int64) (w_D : Addr) (k_D : ClassId) (w_C : Addr) (h0 : Heap) (n0 : Nat) (v : Option Value) (h : Heap) (L : List Loc) : Prop := v = some (.int 1) ∧ Fr n0 L
set_option maxRecDepth 65536 in
set_option maxHeartbeats 40000000 in
theorem own_rm_law (l : Launch) (Z : State) (a0 : Array Value) (hw : ∀ d ∈ tables_1, d.before a0 Z = true) (ws : List Jvm.Cond) (p0 : Int32) (xa : Int64) (xb : Int64) (xc : Int64) (w_D : Addr) (k_D : ClassId) (w_C : Addr) (h0 : Heap) (n0 : Nat) (Z0 : n0 ≤ h0.size) (O0 : Old Z n0 h0) (S_D : Sta Z Z.heap "java/util/ArrayList" "DEFAULTCAPACITY_EMPTY_ELEMENTDATA" "[Ljava/lang/Object;" (.ref w_D)) (V_D : Arv Z Z.heap w_D k_D (.object "java/lang/Object") (0 : Int32) [] .null) (S_C : Sta Z Z.heap "java/lang/Long$LongCache" "cache" "[Ljava/lang/Long;" (.ref w_C)) (hcache : own_cache Z w_C) :
    MetFree l x (head1 (Jvm.Cond.code x code maxLocals ret :: ws) room_1) (fun zz U => zz = #[(.int p0), (.long xa), (.long xb), (.long xc)] ∧ Z.Warmed39 U.vm ∧ U.heap = h0) (fun _ _ _ _ _ => True) (fun _ U zo U' => ∃ v L, zo = .returned v ∧ own_Q_law Z p0 xa xb xc w_D k_D w_C h0 n0 v U'.heap L ∧ FrameEnd U zo U' L 24 128) := by
  refine MetFree.of_bodySF (plainFor_of_name own_pn8) hisR ?_
  intro p e s m args below meth c s₁ Bd hml0 hP hK
  obtain ⟨rfl, hZ, hh⟩ := hP
  have hx := Bd.exec
  have hby := Bd.bytes
  have hml : c.maxLocals = 11 := hml0
  have hown : s.vm.findClass "com/example/limpet/limpet/AcknowledgedNotAskedPinLaw" = some m.cls := findClass_of_methodNamed Bd.named
  have hnm := (name_of_methodNamed Bd.named Bd.method).1
  have X0 : Stand p l e room_1 s m #[(.int p0), (.long xa), (.long xb), (.long xc)] below meth c s₁ [] 0 0 := Stand.of_body Bd
  have e0 : s₁.heap = h0 := by rw [← hh, Bd.state]; rfl
  have N0 := Fr.nil n0
  show own_Go p e below (own_K s (own_Q_law Z p0 xa xb xc w_D k_D w_C h0 n0) 24 128) s₁ (entryFrame m #[(.int p0), (.long xa), (.long xb), (.long xc)] maxLocals)
  rw [own_ef_law m p0 xa xb xc]
  show own_Go p e below _ s₁ (mkF m 0 #[iv p0, .val (.long xa), .second, .val (.long xb), .second, .val (.long xc), .second, .unset, .unset, .unset, .unset] [])
  obtain ⟨i, hi, hc⟩ := own_mask3 p0
  refine own_st (fun _ k => XS.iloadN X0.here hx rfl (hb hby at_0) rfl k) ?_
  show own_Go p e below _ s₁ (mkF m 1 #[iv p0, .val (.long xa), .second, .val (.long xb), .second, .val (.long xc), .second, .unset, .unset, .unset, .unset] [(.int p0)])
  refine own_st (fun _ k => XT.iconstV X0.here hx rfl (3 : Int32) (hb hby at_1) (by decide) k) ?_
  show own_Go p e below _ s₁ (mkF m 2 #[iv p0, .val (.long xa), .second, .val (.long xb), .second, .val (.long xc), .second, .unset, .unset, .unset, .unset] [(.int 3), (.int p0)])
  refine own_st (fun _ k => XS.iand X0.here hx rfl (hb hby at_2) rfl k) ?_
  show own_Go p e below _ s₁ (mkF m 3 #[iv p0, .val (.long xa), .second, .val (.long xb), .second, .val (.long xc), .second, .unset, .unset, .unset, .unset] [(.int (p0 &&& 3))])
  rw [hi]
  show own_Go p e below _ s₁ (mkF m 3 #[iv p0, .val (.long xa), .second, .val (.long xb), .second, .val (.long xc), .second, .unset, .unset, .unset, .unset] [(.int i)])
  refine own_st (fun _ k => XS.istore X0.here hx rfl (hb hby at_3) rfl (l' := #[iv p0, .val (.long xa), .second, .val (.long xb), .second, .val (.long xc), .second, iv i, .unset, .unset, .unset]) rfl k) ?_
  show own_Go p e below _ s₁ (mkF m 5 #[iv p0, .val (.long xa), .second, .val (.long xb), .second, .val (.long xc), .second, iv i, .unset, .unset, .unset] [])
  obtain ⟨T1, h1, X1, e1, x1, A1, D1, -, st1⟩ := newO X0 hx hZ hown (hw _ (List.mem_of_getElem? (i := 0) rfl)) (hw _ (List.mem_of_getElem? (i := 1) rfl)) (hw _ (List.mem_of_getElem? (i := 2) rfl)) e0 (g := (mkF m 5 #[iv p0, .val (.long xa), .second, .val (.long xb), .second, .val (.long xc), .second, iv i, .unset, .unset, .unset] [])) rfl (hb hby at_5) (by decide) (by decide)
  obtain ⟨l1, g1⟩ : ∃ z, z = h0.size := ⟨_, rfl⟩
  rw [← g1] at A1 D1 st1
  have g_l1 : n0 ≤ l1 := g1 ▸ Z0
  have O1 := O0.ext x1
  have Z1 : n0 ≤ h1.size := Nat.le_trans Z0 x1.1
  have F1_modCount_l1 : Fld Z h1 l1 "java/util/AbstractList" "modCount" "I" (.int (0 : Int32)) := D1 (Or.inl (hw _ (List.mem_of_getElem? (i := 22) rfl))) (ty := .int) (by decide)
  have F1_elementData_l1 : Fld Z h1 l1 "java/util/ArrayList" "elementData" "[Ljava/lang/Object;" .null := D1 (Or.inl (hw _ (List.mem_of_getElem? (i := 25) rfl))) (ty := .array (.object "java/lang/Object")) (by decide)
  have F1_size_l1 : Fld Z h1 l1 "java/util/ArrayList" "size" "I" (.int (0 : Int32)) := D1 (Or.inl (hw _ (List.mem_of_getElem? (i := 59) rfl))) (ty := .int) (by decide)
  refine own_st st1 ?_
  show own_Go p e below _ T1 (mkF m 8 #[iv p0, .val (.long xa), .second, .val (.long xb), .second, .val (.long xc), .second, iv i, .unset, .unset, .unset] [(.ref l1)])
  refine own_st (fun _ k => XS.dup X1.here hx rfl (hb hby at_8) rfl rfl k) ?_
  show own_Go p e below _ T1 (mkF m 9 #[iv p0, .val (.long xa), .second, .val (.long xb), .second, .val (.long xc), .second, iv i, .unset, .unset, .unset] [(.ref l1), (.ref l1)])
  obtain ⟨_, _, ⟨T2, L2, k2, n2⟩, -, X2, ⟨Lc2, hQ2, l2, y2, z2⟩, st2⟩ := X1.specialBack hx (y := (⟨"java/util/ArrayList", "<init>", "()V"⟩ : MethodName)) rfl hown (mvT hZ (hw _ (List.mem_of_getElem? (i := 3) rfl))) (mvT hZ (hw _ (List.mem_of_getElem? (i := 4) rfl))) (mvT hZ (hw _ (List.mem_of_getElem? (i := 5) rfl))) (by decide) (backOf (W := 1) (own_rm_ali l Z a0 hw [] l1 w_D h1 n0 Z1 A1 F1_modCount_l1 F1_elementData_l1 F1_size_l1 g_l1 O1 S_D) hZ (hw _ (List.mem_of_getElem? (i := 5) rfl)) (hw _ (List.mem_of_getElem? (i := 2) rfl)) (by decide) (by decide)) (g := (mkF m 9 #[iv p0, .val (.long xa), .second, .val (.long xb), .second, .val (.long xc), .second, iv i, .unset, .unset, .unset] [(.ref l1), (.ref l1)])) rfl (by rw [hml]; rfl) (Steps.refl _) (a := l1) (argsL := []) (rest := [(.ref l1)]) (lenOf own_pd0 rfl) rfl (by show 2 * 0 + _ ≤ _; exact Nat.le_of_eq rfl) (hb hby at_9) (fun _ _ => ⟨rfl, e1, (by decide : 1 + 0 ≤ _), (by decide : 3 + 0 ≤ _)⟩)
  dsimp only [Pt.U, Pt.locs, Pt.cells, Pt.slots] at X2 l2 y2 z2 st2 hQ2
  subst l2 y2 z2
  obtain ⟨rfl, N2, KC2, Fm2, Fe2, Fs2⟩ := hQ2
  have M2 := Fr.app N0 N2
  refine own_tr st2 ?_
  show own_Go p e below _ T2 (mkF m 12 #[iv p0, .val (.long xa), .second, .val (.long xb), .second, .val (.long xc), .second, iv i, .unset, .unset, .unset] [(.ref l1)])
  have O2 := O1.keep KC2 (allS g_l1 all0)
  have E2_l1 := A1.keep KC2
  have Z2 : n0 ≤ T2.heap.size := Nat.le_trans Z1 KC2.1
  refine own_st (fun _ k => XS.astore X2.here hx rfl (hb hby at_12) rfl rfl (l' := #[iv p0, .val (.long xa), .second, .val (.long xb), .second, .val (.long xc), .second, iv i, rv l1, .unset, .unset]) rfl k) ?_
  show own_Go p e below _ T2 (mkF m 14 #[iv p0, .val (.long xa), .second, .val (.long xb), .second, .val (.long xc), .second, iv i, rv l1, .unset, .unset] [])
  refine own_st (fun _ k => XS.iload X2.here hx rfl (hb hby at_14) rfl k) ?_
  show own_Go p e below _ T2 (mkF m 16 #[iv p0, .val (.long xa), .second, .val (.long xb), .second, .val (.long xc), .second, iv i, rv l1, .unset, .unset] [(.int i)])
  refine own_st (fun _ k => XT.iconstV X2.here hx rfl (1 : Int32) (hb hby at_16) (by decide) k) ?_
  show own_Go p e below _ T2 (mkF m 17 #[iv p0, .val (.long xa), .second, .val (.long xb), .second, .val (.long xc), .second, iv i, rv l1, .unset, .unset] [(.int 1), (.int i)])
  rcases hc with rfl | rfl | rfl | rfl
  · show own_Go p e below _ T2 (mkF m 17 #[iv p0, .val (.long xa), .second, .val (.long xb), .second, .val (.long xc), .second, iv 0, rv l1, .unset, .unset] [(.int 1), (.int 0)])
    refine own_st (fun _ k => XS.icmpYes X2.here hx rfl (pc0 := 17) (pc' := 30) rfl (hb hby at_17) rfl (XT.ii_lt_t (by decide)) (by decide) (by decide) k) ?_
    show own_Go p e below _ T2 (mkF m 30 #[iv p0, .val (.long xa), .second, .val (.long xb), .second, .val (.long xc), .second, iv 0, rv l1, .unset, .unset] [])
    refine own_st (fun _ k => XS.iload X2.here hx rfl (hb hby at_30) rfl k) ?_
    show own_Go p e below _ T2 (mkF m 32 #[iv p0, .val (.long xa), .second, .val (.long xb), .second, .val (.long xc), .second, iv 0, rv l1, .unset, .unset] [(.int 0)])
    refine own_st (fun _ k => XT.iconstV X2.here hx rfl (2 : Int32) (hb hby at_32) (by decide) k) ?_
    show own_Go p e below _ T2 (mkF m 33 #[iv p0, .val (.long xa), .second, .val (.long xb), .second, .val (.long xc), .second, iv 0, rv l1, .unset, .unset] [(.int 2), (.int 0)])
    refine own_st (fun _ k => XS.icmpYes X2.here hx rfl (pc0 := 33) (pc' := 46) rfl (hb hby at_33) rfl (XT.ii_lt_t (by decide)) (by decide) (by decide) k) ?_
    show own_Go p e below _ T2 (mkF m 46 #[iv p0, .val (.long xa), .second, .val (.long xb), .second, .val (.long xc), .second, iv 0, rv l1, .unset, .unset] [])
    refine own_st (fun _ k => XS.iload X2.here hx rfl (hb hby at_46) rfl k) ?_
    show own_Go p e below _ T2 (mkF m 48 #[iv p0, .val (.long xa), .second, .val (.long xb), .second, .val (.long xc), .second, iv 0, rv l1, .unset, .unset] [(.int 0)])
    refine own_st (fun _ k => XT.iconstV X2.here hx rfl (3 : Int32) (hb hby at_48) (by decide) k) ?_
    show own_Go p e below _ T2 (mkF m 49 #[iv p0, .val (.long xa), .second, .val (.long xb), .second, .val (.long xc), .second, iv 0, rv l1, .unset, .unset] [(.int 3), (.int 0)])
    refine own_st (fun _ k => XS.icmpYes X2.here hx rfl (pc0 := 49) (pc' := 63) rfl (hb hby at_49) rfl (XT.ii_lt_t (by decide)) (by decide) (by decide) k) ?_
    show own_Go p e below _ T2 (mkF m 63 #[iv p0, .val (.long xa), .second, .val (.long xb), .second, .val (.long xc), .second, iv 0, rv l1, .unset, .unset] [])
    refine own_st (fun _ k => XS.aload X2.here hx rfl (hb hby at_63) rfl rfl k) ?_
    show own_Go p e below _ T2 (mkF m 65 #[iv p0, .val (.long xa), .second, .val (.long xb), .second, .val (.long xc), .second, iv 0, rv l1, .unset, .unset] [(.ref l1)])
    obtain ⟨_, _, ⟨T3, L3, k3, n3⟩, -, X3, ⟨Lc3, hQ3, l3, y3, z3⟩, st3⟩ := Jvm.LawKit.callS X2 hx (y := (⟨"com/example/limpet/limpet/RedisBackend$Acknowledged", "notAsked", "(Ljava/util/List;)Lcom/example/limpet/limpet/RedisBackend$Acknowledged;"⟩ : MethodName)) hown (mvT hZ (hw _ (List.mem_of_getElem? (i := 26) rfl))) (mvT hZ (hw _ (List.mem_of_getElem? (i := 27) rfl))) (mvT hZ (hw _ (List.mem_of_getElem? (i := 28) rfl))) (mvT hZ (hw _ (List.mem_of_getElem? (i := 29) rfl))) (by decide) (backOf (W := 0) (own_rm_nota l Z a0 hw [] l1 T2.heap n0 Z2) hZ (hw _ (List.mem_of_getElem? (i := 29) rfl)) (hw _ (List.mem_of_getElem? (i := 28) rfl)) (by decide) (by decide)) (g := (mkF m 65 #[iv p0, .val (.long xa), .second, .val (.long xb), .second, .val (.long xc), .second, iv 0, rv l1, .unset, .unset] [(.ref l1)])) rfl (by rw [hml]; rfl) (argsL := [(.ref l1)]) (rest := []) (lenOf own_pd9 rfl) rfl (by show 2 * 0 + _ ≤ _; exact Nat.le_of_eq rfl) (hb hby at_65) (fun _ _ => ⟨rfl, rfl, (by decide : 1 + 1 ≤ _), (by decide : 3 + 4 ≤ _)⟩)
    dsimp only [Pt.U, Pt.locs, Pt.cells, Pt.slots] at X3 l3 y3 z3 st3 hQ3
    subst l3 y3 z3
    obtain ⟨k1, rfl, N3, KC3, Ek3, Fr3, Fa3, Fc3, Fx3⟩ := hQ3
    have M3 := Fr.app M2 N3
    refine own_st st3 ?_
    show own_Go p e below _ T3 (mkF m 68 #[iv p0, .val (.long xa), .second, .val (.long xb), .second, .val (.long xc), .second, iv 0, rv l1, .unset, .unset] [(.ref k1)])
    have O3 := O2.keep KC3 all0
    have E3_l1 := E2_l1.keep KC3
    have F3_modCount_l1 := Fm2.keep KC3 nin0
    have F3_elementData_l1 := Fe2.keep KC3 nin0
    have F3_size_l1 := Fs2.keep KC3 nin0
    have Z3 : n0 ≤ T3.heap.size := Nat.le_trans Z2 KC3.1
    refine own_st (fun _ k => XS.astore X3.here hx rfl (hb hby at_68) rfl rfl (l' := #[iv p0, .val (.long xa), .second, .val (.long xb), .second, .val (.long xc), .second, iv 0, rv l1, rv k1, .unset]) rfl k) ?_
    show own_Go p e below _ T3 (mkF m 70 #[iv p0, .val (.long xa), .second, .val (.long xb), .second, .val (.long xc), .second, iv 0, rv l1, rv k1, .unset] [])
    refine own_st (fun _ k => XS.aload X3.here hx rfl (hb hby at_70) rfl rfl k) ?_
    show own_Go p e below _ T3 (mkF m 72 #[iv p0, .val (.long xa), .second, .val (.long xb), .second, .val (.long xc), .second, iv 0, rv l1, rv k1, .unset] [(.ref k1)])
    obtain ⟨cq4, kq4, q4a, q4b, q4c⟩ := isOf hZ rfl Ek3
    obtain ⟨_, _, ⟨T4, L4, k4, n4⟩, -, X4, ⟨Lc4, hQ4, l4, y4, z4⟩, st4⟩ := X3.virtualBack hx (y := (⟨"com/example/limpet/limpet/RedisBackend$Acknowledged", "reply", "()Ljava/util/List;"⟩ : MethodName)) (z := (⟨"com/example/limpet/limpet/RedisBackend$Acknowledged", "reply", "()Ljava/util/List;"⟩ : MethodName)) hown (mvT hZ (hw _ (List.mem_of_getElem? (i := 44) rfl))) (mvT hZ (hw _ (List.mem_of_getElem? (i := 45) rfl))) (notFace_of_selects (args := #[]) (mvT hZ (hw _ (List.mem_of_getElem? (i := 47) rfl)))) (mvT hZ (hw _ (List.mem_of_getElem? (i := 47) rfl))) (mvT hZ (hw _ (List.mem_of_getElem? (i := 46) rfl))) (by decide) (backOf (W := 0) (own_rm_grep l Z a0 hw [] k1 l1 T3.heap n0 Z3 Fr3) hZ (hw _ (List.mem_of_getElem? (i := 48) rfl)) (hw _ (List.mem_of_getElem? (i := 28) rfl)) (by decide) (by decide)) q4a q4c (g := (mkF m 72 #[iv p0, .val (.long xa), .second, .val (.long xb), .second, .val (.long xc), .second, iv 0, rv l1, rv k1, .unset] [(.ref k1)])) rfl (by rw [hml]; rfl) (Steps.refl _) (argsL := []) (rest := []) (lenOf own_pd10 rfl) rfl (by show 2 * 0 + _ ≤ _; exact Nat.le_of_eq rfl) (hb hby at_72) (fun _ _ => ⟨rfl, rfl, (by decide : 2 + 0 ≤ _), (by decide : 7 + 0 ≤ _)⟩)
    dsimp only [Pt.U, Pt.locs, Pt.cells, Pt.slots] at X4 l4 y4 z4 st4 hQ4
    subst l4 y4 z4
    obtain ⟨rfl, N4, eh4⟩ := hQ4
    have M4 := Fr.app M3 N4
    refine own_tr st4 ?_
    show own_Go p e below _ T4 (mkF m 75 #[iv p0, .val (.long xa), .second, .val (.long xb), .second, .val (.long xc), .second, iv 0, rv l1, rv k1, .unset] [(.ref l1)])
    refine own_st (fun _ k => XS.astore X4.here hx rfl (hb hby at_75) rfl rfl (l' := #[iv p0, .val (.long xa), .second, .val (.long xb), .second, .val (.long xc), .second, iv 0, rv l1, rv k1, rv l1]) rfl k) ?_
    show own_Go p e below _ T4 (mkF m 77 #[iv p0, .val (.long xa), .second, .val (.long xb), .second, .val (.long xc), .second, iv 0, rv l1, rv k1, rv l1] [])
    refine own_st (fun _ k => XS.aload X4.here hx rfl (hb hby at_77) rfl rfl k) ?_
    show own_Go p e below _ T4 (mkF m 79 #[iv p0, .val (.long xa), .second, .val (.long xb), .second, .val (.long xc), .second, iv 0, rv l1, rv k1, rv l1] [(.ref l1)])
    refine own_st (fun _ k => XS.aload X4.here hx rfl (hb hby at_79) rfl rfl k) ?_
    show own_Go p e below _ T4 (mkF m 81 #[iv p0, .val (.long xa), .second, .val (.long xb), .second, .val (.long xc), .second, iv 0, rv l1, rv k1, rv l1] [(.ref l1), (.ref l1)])
    refine own_st (fun _ k => XT.acmpNo X4.here hx rfl (hb hby at_81) rfl rfl rfl (XT.aa_ne_f rfl) k) ?_
    show own_Go p e below _ T4 (mkF m 84 #[iv p0, .val (.long xa), .second, .val (.long xb), .second, .val (.long xc), .second, iv 0, rv l1, rv k1, rv l1] [])
    refine own_st (fun _ k => XS.aload X4.here hx rfl (hb hby at_84) rfl rfl k) ?_
    show own_Go p e below _ T4 (mkF m 86 #[iv p0, .val (.long xa), .second, .val (.long xb), .second, .val (.long xc), .second, iv 0, rv l1, rv k1, rv l1] [(.ref l1)])
    obtain ⟨cq5, kq5, q5a, q5b, q5c⟩ := isOf hZ eh4 E3_l1
    obtain ⟨_, _, ⟨T5, L5, k5, n5⟩, -, X5, ⟨Lc5, hQ5, l5, y5, z5⟩, st5⟩ := X4.interfaceBack hx (xi := (⟨"java/util/List", "size", "()I"⟩ : MethodName)) (y := (⟨"java/util/ArrayList", "size", "()I"⟩ : MethodName)) hown (mvT hZ (hw _ (List.mem_of_getElem? (i := 49) rfl))) (mvT hZ (hw _ (List.mem_of_getElem? (i := 50) rfl))) (mvT hZ (hw _ (List.mem_of_getElem? (i := 51) rfl))) (mvT hZ (hw _ (List.mem_of_getElem? (i := 52) rfl))) (mvT hZ (hw _ (List.mem_of_getElem? (i := 53) rfl))) (mvT hZ (hw _ (List.mem_of_getElem? (i := 54) rfl))) (mvT hZ (hw _ (List.mem_of_getElem? (i := 55) rfl))) (mvT hZ (hw _ (List.mem_of_getElem? (i := 56) rfl))) (by decide) (backOf (W := 0) (own_rm_size l Z a0 hw [] l1 (0 : Int32) T3.heap n0 Z3 F3_size_l1) hZ (hw _ (List.mem_of_getElem? (i := 57) rfl)) (hw _ (List.mem_of_getElem? (i := 2) rfl)) (by decide) (by decide)) q5a q5b q5c (g := (mkF m 86 #[iv p0, .val (.long xa), .second, .val (.long xb), .second, .val (.long xc), .second, iv 0, rv l1, rv k1, rv l1] [(.ref l1)])) rfl (by rw [hml]; rfl) (Steps.refl _) (argsL := []) (rest := []) (lenOf own_pd11 rfl) rfl (by show 2 * 0 + _ ≤ _; exact Nat.le_of_eq rfl) (hb hby at_86) (fun _ _ => ⟨rfl, eh4, (by decide : 2 + 0 ≤ _), (by decide : 7 + 0 ≤ _)⟩)
    dsimp only [Pt.U, Pt.locs, Pt.cells, Pt.slots] at X5 l5 y5 z5 st5 hQ5
    subst l5 y5 z5
    obtain ⟨rfl, N5, eh5⟩ := hQ5
    have M5 := Fr.app M4 N5
    refine own_tr st5 ?_
    show own_Go p e below _ T5 (mkF m 91 #[iv p0, .val (.long xa), .second, .val (.long xb), .second, .val (.long xc), .second, iv 0, rv l1, rv k1, rv l1] [(.int 0)])
    refine own_st (fun _ k => XS.iload X5.here hx rfl (hb hby at_91) rfl k) ?_
    show own_Go p e below _ T5 (mkF m 93 #[iv p0, .val (.long xa), .second, .val (.long xb), .second, .val (.long xc), .second, iv 0, rv l1, rv k1, rv l1] [(.int 0), (.int 0)])
    refine own_st (fun _ k => XS.icmpYes X5.here hx rfl (pc0 := 93) (pc' := 98) rfl (hb hby at_93) rfl (XT.ii_eq_t rfl) (by decide) (by decide) k) ?_
    show own_Go p e below _ T5 (mkF m 98 #[iv p0, .val (.long xa), .second, .val (.long xb), .second, .val (.long xc), .second, iv 0, rv l1, rv k1, rv l1] [])
    refine own_st (fun _ k => XS.iload X5.here hx rfl (hb hby at_98) rfl k) ?_
    show own_Go p e below _ T5 (mkF m 100 #[iv p0, .val (.long xa), .second, .val (.long xb), .second, .val (.long xc), .second, iv 0, rv l1, rv k1, rv l1] [(.int 0)])
    refine own_st (fun _ k => XT.iconstV X5.here hx rfl (1 : Int32) (hb hby at_100) (by decide) k) ?_
    show own_Go p e below _ T5 (mkF m 101 #[iv p0, .val (.long xa), .second, .val (.long xb), .second, .val (.long xc), .second, iv 0, rv l1, rv k1, rv l1] [(.int 1), (.int 0)])
    refine own_st (fun _ k => XS.icmpYes X5.here hx rfl (pc0 := 101) (pc' := 125) rfl (hb hby at_101) rfl (XT.ii_lt_t (by decide)) (by decide) (by decide) k) ?_
    show own_Go p e below _ T5 (mkF m 125 #[iv p0, .val (.long xa), .second, .val (.long xb), .second, .val (.long xc), .second, iv 0, rv l1, rv k1, rv l1] [])
    refine own_st (fun _ k => XS.iload X5.here hx rfl (hb hby at_125) rfl k) ?_
    show own_Go p e below _ T5 (mkF m 127 #[iv p0, .val (.long xa), .second, .val (.long xb), .second, .val (.long xc), .second, iv 0, rv l1, rv k1, rv l1] [(.int 0)])
    refine own_st (fun _ k => XT.iconstV X5.here hx rfl (2 : Int32) (hb hby at_127) (by decide) k) ?_
    show own_Go p e below _ T5 (mkF m 128 #[iv p0, .val (.long xa), .second, .val (.long xb), .second, .val (.long xc), .second, iv 0, rv l1, rv k1, rv l1] [(.int 2), (.int 0)])
    refine own_st (fun _ k => XS.icmpYes X5.here hx rfl (pc0 := 128) (pc' := 152) rfl (hb hby at_128) rfl (XT.ii_lt_t (by decide)) (by decide) (by decide) k) ?_
    show own_Go p e below _ T5 (mkF m 152 #[iv p0, .val (.long xa), .second, .val (.long xb), .second, .val (.long xc), .second, iv 0, rv l1, rv k1, rv l1] [])
    refine own_st (fun _ k => XS.iload X5.here hx rfl (hb hby at_152) rfl k) ?_
    show own_Go p e below _ T5 (mkF m 154 #[iv p0, .val (.long xa), .second, .val (.long xb), .second, .val (.long xc), .second, iv 0, rv l1, rv k1, rv l1] [(.int 0)])
    refine own_st (fun _ k => XT.iconstV X5.here hx rfl (3 : Int32) (hb hby at_154) (by decide) k) ?_
    show own_Go p e below _ T5 (mkF m 155 #[iv p0, .val (.long xa), .second, .val (.long xb), .second, .val (.long xc), .second, iv 0, rv l1, rv k1, rv l1] [(.int 3), (.int 0)])
    refine own_st (fun _ k => XS.icmpYes X5.here hx rfl (pc0 := 155) (pc' := 180) rfl (hb hby at_155) rfl (XT.ii_lt_t (by decide)) (by decide) (by decide) k) ?_
    show own_Go p e below _ T5 (mkF m 180 #[iv p0, .val (.long xa), .second, .val (.long xb), .second, .val (.long xc), .second, iv 0, rv l1, rv k1, rv l1] [])
    refine own_st (fun _ k => XS.aload X5.here hx rfl (hb hby at_180) rfl rfl k) ?_
    show own_Go p e below _ T5 (mkF m 182 #[iv p0, .val (.long xa), .second, .val (.long xb), .second, .val (.long xc), .second, iv 0, rv l1, rv k1, rv l1] [(.ref k1)])
    obtain ⟨cq6, kq6, q6a, q6b, q6c⟩ := isOf hZ eh5 Ek3
    obtain ⟨_, _, ⟨T6, L6, k6, n6⟩, -, X6, ⟨Lc6, hQ6, l6, y6, z6⟩, st6⟩ := X5.virtualBack hx (y := (⟨"com/example/limpet/limpet/RedisBackend$Acknowledged", "asked", "()I"⟩ : MethodName)) (z := (⟨"com/example/limpet/limpet/RedisBackend$Acknowledged", "asked", "()I"⟩ : MethodName)) hown (mvT hZ (hw _ (List.mem_of_getElem? (i := 60) rfl))) (mvT hZ (hw _ (List.mem_of_getElem? (i := 61) rfl))) (notFace_of_selects (args := #[]) (mvT hZ (hw _ (List.mem_of_getElem? (i := 63) rfl)))) (mvT hZ (hw _ (List.mem_of_getElem? (i := 63) rfl))) (mvT hZ (hw _ (List.mem_of_getElem? (i := 62) rfl))) (by decide) (backOf (W := 0) (own_rm_gask l Z a0 hw [] k1 T3.heap n0 Z3 Fa3) hZ (hw _ (List.mem_of_getElem? (i := 64) rfl)) (hw _ (List.mem_of_getElem? (i := 28) rfl)) (by decide) (by decide)) q6a q6c (g := (mkF m 182 #[iv p0, .val (.long xa), .second, .val (.long xb), .second, .val (.long xc), .second, iv 0, rv l1, rv k1, rv l1] [(.ref k1)])) rfl (by rw [hml]; rfl) (Steps.refl _) (argsL := []) (rest := []) (lenOf own_pd11 rfl) rfl (by show 2 * 0 + _ ≤ _; exact Nat.le_of_eq rfl) (hb hby at_182) (fun _ _ => ⟨rfl, eh5, (by decide : 2 + 0 ≤ _), (by decide : 7 + 0 ≤ _)⟩)
    dsimp only [Pt.U, Pt.locs, Pt.cells, Pt.slots] at X6 l6 y6 z6 st6 hQ6
    subst l6 y6 z6
    obtain ⟨rfl, N6, eh6⟩ := hQ6
    have M6 := Fr.app M5 N6
    refine own_tr st6 ?_
    show own_Go p e below _ T6 (mkF m 185 #[iv p0, .val (.long xa), .second, .val (.long xb), .second, .val (.long xc), .second, iv 0, rv l1, rv k1, rv l1] [(.int 0)])
    refine own_st (fun _ k => XS.ifNo X6.here hx rfl (hb hby at_185) rfl (XT.i0_ne_f rfl) k) ?_
    show own_Go p e below _ T6 (mkF m 188 #[iv p0, .val (.long xa), .second, .val (.long xb), .second, .val (.long xc), .second, iv 0, rv l1, rv k1, rv l1] [])
    refine own_st (fun _ k => XS.aload X6.here hx rfl (hb hby at_188) rfl rfl k) ?_
    show own_Go p e below _ T6 (mkF m 190 #[iv p0, .val (.long xa), .second, .val (.long xb), .second, .val (.long xc), .second, iv 0, rv l1, rv k1, rv l1] [(.ref k1)])
    obtain ⟨cq7, kq7, q7a, q7b, q7c⟩ := isOf hZ eh6 Ek3
    obtain ⟨_, _, ⟨T7, L7, k7, n7⟩, -, X7, ⟨Lc7, hQ7, l7, y7, z7⟩, st7⟩ := X6.virtualBack hx (y := (⟨"com/example/limpet/limpet/RedisBackend$Acknowledged", "acknowledged", "()J"⟩ : MethodName)) (z := (⟨"com/example/limpet/limpet/RedisBackend$Acknowledged", "acknowledged", "()J"⟩ : MethodName)) hown (mvT hZ (hw _ (List.mem_of_getElem? (i := 65) rfl))) (mvT hZ (hw _ (List.mem_of_getElem? (i := 66) rfl))) (notFace_of_selects (args := #[]) (mvT hZ (hw _ (List.mem_of_getElem? (i := 68) rfl)))) (mvT hZ (hw _ (List.mem_of_getElem? (i := 68) rfl))) (mvT hZ (hw _ (List.mem_of_getElem? (i := 67) rfl))) (by decide) (backOf (W := 0) (own_rm_gack l Z a0 hw [] k1 T3.heap n0 Z3 Fc3) hZ (hw _ (List.mem_of_getElem? (i := 69) rfl)) (hw _ (List.mem_of_getElem? (i := 28) rfl)) (by decide) (by decide)) q7a q7c (g := (mkF m 190 #[iv p0, .val (.long xa), .second, .val (.long xb), .second, .val (.long xc), .second, iv 0, rv l1, rv k1, rv l1] [(.ref k1)])) rfl (by rw [hml]; rfl) (Steps.refl _) (argsL := []) (rest := []) (lenOf own_pd12 rfl) rfl (by show 2 * 0 + _ ≤ _; exact Nat.le_of_eq rfl) (hb hby at_190) (fun _ _ => ⟨rfl, eh6, (by decide : 2 + 0 ≤ _), (by decide : 7 + 0 ≤ _)⟩)
    dsimp only [Pt.U, Pt.locs, Pt.cells, Pt.slots] at X7 l7 y7 z7 st7 hQ7
    subst l7 y7 z7
    obtain ⟨rfl, N7, eh7⟩ := hQ7
    have M7 := Fr.app M6 N7
    refine own_tr st7 ?_
    show own_Go p e below _ T7 (mkF m 193 #[iv p0, .val (.long xa), .second, .val (.long xb), .second, .val (.long xc), .second, iv 0, rv l1, rv k1, rv l1] [(.long 0)])
    refine own_st (fun _ k => XT.lconstV X7.here hx rfl (0 : Int64) (hb hby at_193) (by decide) k) ?_
    show own_Go p e below _ T7 (mkF m 194 #[iv p0, .val (.long xa), .second, .val (.long xb), .second, .val (.long xc), .second, iv 0, rv l1, rv k1, rv l1] [(.long 0), (.long 0)])
    refine own_st (fun _ k => XT.lcmp X7.here hx rfl (hb hby at_194) rfl k) ?_
    show own_Go p e below _ T7 (mkF m 195 #[iv p0, .val (.long xa), .second, .val (.long xb), .second, .val (.long xc), .second, iv 0, rv l1, rv k1, rv l1] [(.int (XT.cmpL 0 0))])
    refine own_st (fun _ k => XS.ifNo X7.here hx rfl (hb hby at_195) rfl (XT.ll_ne_f rfl) k) ?_
    show own_Go p e below _ T7 (mkF m 198 #[iv p0, .val (.long xa), .second, .val (.long xb), .second, .val (.long xc), .second, iv 0, rv l1, rv k1, rv l1] [])
    refine own_st (fun _ k => XS.aload X7.here hx rfl (hb hby at_198) rfl rfl k) ?_
    show own_Go p e below _ T7 (mkF m 200 #[iv p0, .val (.long xa), .second, .val (.long xb), .second, .val (.long xc), .second, iv 0, rv l1, rv k1, rv l1] [(.ref k1)])
    obtain ⟨cq8, kq8, q8a, q8b, q8c⟩ := isOf hZ eh7 Ek3
    obtain ⟨_, _, ⟨T8, L8, k8, n8⟩, -, X8, ⟨Lc8, hQ8, l8, y8, z8⟩, st8⟩ := X7.virtualBack hx (y := (⟨"com/example/limpet/limpet/RedisBackend$Acknowledged", "failure", "()Ljava/lang/RuntimeException;"⟩ : MethodName)) (z := (⟨"com/example/limpet/limpet/RedisBackend$Acknowledged", "failure", "()Ljava/lang/RuntimeException;"⟩ : MethodName)) hown (mvT hZ (hw _ (List.mem_of_getElem? (i := 70) rfl))) (mvT hZ (hw _ (List.mem_of_getElem? (i := 71) rfl))) (notFace_of_selects (args := #[]) (mvT hZ (hw _ (List.mem_of_getElem? (i := 73) rfl)))) (mvT hZ (hw _ (List.mem_of_getElem? (i := 73) rfl))) (mvT hZ (hw _ (List.mem_of_getElem? (i := 72) rfl))) (by decide) (backOf (W := 0) (own_rm_gfail l Z a0 hw [] k1 T3.heap n0 Z3 Fx3) hZ (hw _ (List.mem_of_getElem? (i := 74) rfl)) (hw _ (List.mem_of_getElem? (i := 28) rfl)) (by decide) (by decide)) q8a q8c (g := (mkF m 200 #[iv p0, .val (.long xa), .second, .val (.long xb), .second, .val (.long xc), .second, iv 0, rv l1, rv k1, rv l1] [(.ref k1)])) rfl (by rw [hml]; rfl) (Steps.refl _) (argsL := []) (rest := []) (lenOf own_pd13 rfl) rfl (by show 2 * 0 + _ ≤ _; exact Nat.le_of_eq rfl) (hb hby at_200) (fun _ _ => ⟨rfl, eh7, (by decide : 2 + 0 ≤ _), (by decide : 7 + 0 ≤ _)⟩)
    dsimp only [Pt.U, Pt.locs, Pt.cells, Pt.slots] at X8 l8 y8 z8 st8 hQ8
    subst l8 y8 z8
    obtain ⟨rfl, N8, eh8⟩ := hQ8
    have M8 := Fr.app M7 N8
    refine own_tr st8 ?_
    show own_Go p e below _ T8 (mkF m 203 #[iv p0, .val (.long xa), .second, .val (.long xb), .second, .val (.long xc), .second, iv 0, rv l1, rv k1, rv l1] [.null])
    refine own_st (fun _ k => XT.ifnonnullNo X8.here hx rfl (hb hby at_203) rfl k) ?_
    show own_Go p e below _ T8 (mkF m 206 #[iv p0, .val (.long xa), .second, .val (.long xb), .second, .val (.long xc), .second, iv 0, rv l1, rv k1, rv l1] [])
    refine own_st (fun _ k => XS.aload X8.here hx rfl (hb hby at_206) rfl rfl k) ?_
    show own_Go p e below _ T8 (mkF m 208 #[iv p0, .val (.long xa), .second, .val (.long xb), .second, .val (.long xc), .second, iv 0, rv l1, rv k1, rv l1] [(.ref k1)])
    obtain ⟨cq9, kq9, q9a, q9b, q9c⟩ := isOf hZ eh8 Ek3
    obtain ⟨_, _, ⟨T9, L9, k9, n9⟩, -, X9, ⟨Lc9, hQ9, l9, y9, z9⟩, st9⟩ := X8.virtualBack hx (y := (⟨"com/example/limpet/limpet/RedisBackend$Acknowledged", "counts", "()Z"⟩ : MethodName)) (z := (⟨"com/example/limpet/limpet/RedisBackend$Acknowledged", "counts", "()Z"⟩ : MethodName)) hown (mvT hZ (hw _ (List.mem_of_getElem? (i := 75) rfl))) (mvT hZ (hw _ (List.mem_of_getElem? (i := 76) rfl))) (notFace_of_selects (args := #[]) (mvT hZ (hw _ (List.mem_of_getElem? (i := 78) rfl)))) (mvT hZ (hw _ (List.mem_of_getElem? (i := 78) rfl))) (mvT hZ (hw _ (List.mem_of_getElem? (i := 77) rfl))) (by decide) (backOf (W := 0) (own_rm_gcnt l Z a0 hw [] k1 T3.heap n0 Z3 Fa3) hZ (hw _ (List.mem_of_getElem? (i := 79) rfl)) (hw _ (List.mem_of_getElem? (i := 28) rfl)) (by decide) (by decide)) q9a q9c (g := (mkF m 208 #[iv p0, .val (.long xa), .second, .val (.long xb), .second, .val (.long xc), .second, iv 0, rv l1, rv k1, rv l1] [(.ref k1)])) rfl (by rw [hml]; rfl) (Steps.refl _) (argsL := []) (rest := []) (lenOf own_pd14 rfl) rfl (by show 2 * 0 + _ ≤ _; exact Nat.le_of_eq rfl) (hb hby at_208) (fun _ _ => ⟨rfl, eh8, (by decide : 2 + 0 ≤ _), (by decide : 7 + 0 ≤ _)⟩)
    dsimp only [Pt.U, Pt.locs, Pt.cells, Pt.slots] at X9 l9 y9 z9 st9 hQ9
    subst l9 y9 z9
    obtain ⟨rfl, N9, eh9⟩ := hQ9
    have M9 := Fr.app M8 N9
    refine own_tr st9 ?_
    show own_Go p e below _ T9 (mkF m 211 #[iv p0, .val (.long xa), .second, .val (.long xb), .second, .val (.long xc), .second, iv 0, rv l1, rv k1, rv l1] [(.int 1)])
    refine own_st (fun _ k => XS.ifNo X9.here hx rfl (hb hby at_211) rfl (XT.i0_eq_f (by decide)) k) ?_
    show own_Go p e below _ T9 (mkF m 214 #[iv p0, .val (.long xa), .second, .val (.long xb), .second, .val (.long xc), .second, iv 0, rv l1, rv k1, rv l1] [])
    refine own_st (fun _ k => XT.iconstV X9.here hx rfl (1 : Int32) (hb hby at_214) (by decide) k) ?_
    show own_Go p e below _ T9 (mkF m 215 #[iv p0, .val (.long xa), .second, .val (.long xb), .second, .val (.long xc), .second, iv 0, rv l1, rv k1, rv l1] [(.int 1)])
    refine own_st (fun _ k => XS.goto X9.here hx rfl (pc0 := 215) (pc' := 219) rfl (hb hby at_215) (by decide) (by decide) k) ?_
    show own_Go p e below _ T9 (mkF m 219 #[iv p0, .val (.long xa), .second, .val (.long xb), .second, .val (.long xc), .second, iv 0, rv l1, rv k1, rv l1] [(.int 1)])
    refine own_retN X9 hx Bd.notSynchronized (t := .boolean) Bd.returns (by simp) (hb hby at_219) (by decide) (by decide) ?_
    rw [eh9]
    exact ⟨rfl, M9⟩
  · show own_Go p e below _ T2 (mkF m 17 #[iv p0, .val (.long xa), .second, .val (.long xb), .second, .val (.long xc), .second, iv 1, rv l1, .unset, .unset] [(.int 1), (.int 1)])
    refine own_st (fun _ k => XS.icmpNo X2.here hx rfl (hb hby at_17) rfl (XT.ii_lt_f (by decide)) k) ?_
    show own_Go p e below _ T2 (mkF m 20 #[iv p0, .val (.long xa), .second, .val (.long xb), .second, .val (.long xc), .second, iv 1, rv l1, .unset, .unset] [])
    refine own_st (fun _ k => XS.aload X2.here hx rfl (hb hby at_20) rfl rfl k) ?_
    show own_Go p e below _ T2 (mkF m 22 #[iv p0, .val (.long xa), .second, .val (.long xb), .second, .val (.long xc), .second, iv 1, rv l1, .unset, .unset] [(.ref l1)])
    refine own_st (fun _ k => XT.lloadN X2.here hx rfl (hb hby at_22) rfl k) ?_
    show own_Go p e below _ T2 (mkF m 23 #[iv p0, .val (.long xa), .second, .val (.long xb), .second, .val (.long xc), .second, iv 1, rv l1, .unset, .unset] [(.long xa), (.ref l1)])
    obtain ⟨_, _, ⟨T11, L11, k11, n11⟩, -, X11, ⟨Lc11, hQ11, l11, y11, z11⟩, st11⟩ := Jvm.LawKit.callS X2 hx (y := (⟨"java/lang/Long", "valueOf", "(J)Ljava/lang/Long;"⟩ : MethodName)) hown (mvT hZ (hw _ (List.mem_of_getElem? (i := 80) rfl))) (mvT hZ (hw _ (List.mem_of_getElem? (i := 81) rfl))) (mvT hZ (hw _ (List.mem_of_getElem? (i := 82) rfl))) (mvT hZ (hw _ (List.mem_of_getElem? (i := 83) rfl))) (by decide) (backOf (W := 1) (own_rm_valof l Z a0 hw [] xa w_C T2.heap n0 Z2 O2 S_C hcache) hZ (hw _ (List.mem_of_getElem? (i := 83) rfl)) (hw _ (List.mem_of_getElem? (i := 82) rfl)) (by decide) (by decide)) (g := (mkF m 23 #[iv p0, .val (.long xa), .second, .val (.long xb), .second, .val (.long xc), .second, iv 1, rv l1, .unset, .unset] [(.long xa), (.ref l1)])) rfl (by rw [hml]; rfl) (argsL := [(.long xa)]) (rest := [(.ref l1)]) (lenOf own_pd15 rfl) rfl (by show 2 * 0 + _ ≤ _; exact Nat.le_of_eq rfl) (hb hby at_23) (fun _ _ => ⟨rfl, rfl, (by decide : 1 + 1 ≤ _), (by decide : 3 + 1 ≤ _)⟩)
    dsimp only [Pt.U, Pt.locs, Pt.cells, Pt.slots] at X11 l11 y11 z11 st11 hQ11
    subst l11 y11 z11
    obtain ⟨b1, rfl, N11, KC11, Eb11, Fv11⟩ := hQ11
    have M11 := Fr.app M2 N11
    refine own_st st11 ?_
    show own_Go p e below _ T11 (mkF m 26 #[iv p0, .val (.long xa), .second, .val (.long xb), .second, .val (.long xc), .second, iv 1, rv l1, .unset, .unset] [(.ref b1), (.ref l1)])
    have O11 := O2.keep KC11 all0
    have E11_l1 := E2_l1.keep KC11
    have F11_modCount_l1 := Fm2.keep KC11 nin0
    have F11_elementData_l1 := Fe2.keep KC11 nin0
    have F11_size_l1 := Fs2.keep KC11 nin0
    have Z11 : n0 ≤ T11.heap.size := Nat.le_trans Z2 KC11.1
    have ne_b1_l1 : b1 ≠ l1 := ne_exa Eb11 E11_l1 (by decide)
    obtain ⟨cq12, kq12, q12a, q12b, q12c⟩ := isOf hZ rfl E11_l1
    obtain ⟨_, _, ⟨T12, L12, k12, n12⟩, -, X12, ⟨Lc12, hQ12, l12, y12, z12⟩, st12⟩ := X11.virtualBack hx (y := (⟨"java/util/ArrayList", "add", "(Ljava/lang/Object;)Z"⟩ : MethodName)) (z := (⟨"java/util/ArrayList", "add", "(Ljava/lang/Object;)Z"⟩ : MethodName)) hown (mvT hZ (hw _ (List.mem_of_getElem? (i := 88) rfl))) (mvT hZ (hw _ (List.mem_of_getElem? (i := 89) rfl))) (notFace_of_selects (args := #[]) (mvT hZ (hw _ (List.mem_of_getElem? (i := 91) rfl)))) (mvT hZ (hw _ (List.mem_of_getElem? (i := 91) rfl))) (mvT hZ (hw _ (List.mem_of_getElem? (i := 90) rfl))) (by decide) (backOf (W := 0) (own_rm_add1a l Z a0 hw [] l1 b1 w_D k_D (0 : Int32) T11.heap n0 Z11 E11_l1 F11_modCount_l1 F11_elementData_l1 F11_size_l1 g_l1 O11 S_D V_D Eb11) hZ (hw _ (List.mem_of_getElem? (i := 92) rfl)) (hw _ (List.mem_of_getElem? (i := 2) rfl)) (by decide) (by decide)) q12a q12c (g := (mkF m 26 #[iv p0, .val (.long xa), .second, .val (.long xb), .second, .val (.long xc), .second, iv 1, rv l1, .unset, .unset] [(.ref b1), (.ref l1)])) rfl (by rw [hml]; rfl) (Steps.refl _) (argsL := [(.ref b1)]) (rest := []) (lenOf own_pd16 rfl) rfl (by show 2 * 0 + _ ≤ _; exact Nat.le_of_eq rfl) (hb hby at_26) (fun _ _ => ⟨rfl, rfl, (by decide : 2 + 1 ≤ _), (by decide : 4 + 10 ≤ _)⟩)
    dsimp only [Pt.U, Pt.locs, Pt.cells, Pt.slots] at X12 l12 y12 z12 st12 hQ12
    subst l12 y12 z12
    obtain ⟨d1, k_d1, rfl, N12, KC12, Fm12, Fe12, Fs12, Vd12, Ov_d1, sz_d1⟩ := hQ12
    have M12 := Fr.app M11 N12
    refine own_tr st12 ?_
    show own_Go p e below _ T12 (mkF m 29 #[iv p0, .val (.long xa), .second, .val (.long xb), .second, .val (.long xc), .second, iv 1, rv l1, .unset, .unset] [(.int 1)])
    have O12 := O11.keep KC12 (allS g_l1 all0)
    have E12_l1 := E11_l1.keep KC12
    have E12_b1 := Eb11.keep KC12
    have F12_value_b1 := Fv11.keep KC12 (ninS ne_b1_l1 nin0)
    have Z12 : n0 ≤ T12.heap.size := Nat.le_trans Z11 KC12.1
    have g_d1 : n0 ≤ d1 := Nat.le_trans Z11 sz_d1
    have ne_l1_d1 : l1 ≠ d1 := Nat.ne_of_lt (Nat.lt_of_lt_of_le E11_l1.lt sz_d1)
    have ne_b1_d1 : b1 ≠ d1 := Nat.ne_of_lt (Nat.lt_of_lt_of_le Eb11.lt sz_d1)
    refine own_st (fun _ k => XT.pop X12.here hx rfl (hb hby at_29) rfl rfl k) ?_
    show own_Go p e below _ T12 (mkF m 30 #[iv p0, .val (.long xa), .second, .val (.long xb), .second, .val (.long xc), .second, iv 1, rv l1, .unset, .unset] [])
    refine own_st (fun _ k => XS.iload X12.here hx rfl (hb hby at_30) rfl k) ?_
    show own_Go p e below _ T12 (mkF m 32 #[iv p0, .val (.long xa), .second, .val (.long xb), .second, .val (.long xc), .second, iv 1, rv l1, .unset, .unset] [(.int 1)])
    refine own_st (fun _ k => XT.iconstV X12.here hx rfl (2 : Int32) (hb hby at_32) (by decide) k) ?_
    show own_Go p e below _ T12 (mkF m 33 #[iv p0, .val (.long xa), .second, .val (.long xb), .second, .val (.long xc), .second, iv 1, rv l1, .unset, .unset] [(.int 2), (.int 1)])
    refine own_st (fun _ k => XS.icmpYes X12.here hx rfl (pc0 := 33) (pc' := 46) rfl (hb hby at_33) rfl (XT.ii_lt_t (by decide)) (by decide) (by decide) k) ?_
    show own_Go p e below _ T12 (mkF m 46 #[iv p0, .val (.long xa), .second, .val (.long xb), .second, .val (.long xc), .second, iv 1, rv l1, .unset, .unset] [])
    refine own_st (fun _ k => XS.iload X12.here hx rfl (hb hby at_46) rfl k) ?_
    show own_Go p e below _ T12 (mkF m 48 #[iv p0, .val (.long xa), .second, .val (.long xb), .second, .val (.long xc), .second, iv 1, rv l1, .unset, .unset] [(.int 1)])
    refine own_st (fun _ k => XT.iconstV X12.here hx rfl (3 : Int32) (hb hby at_48) (by decide) k) ?_
    show own_Go p e below _ T12 (mkF m 49 #[iv p0, .val (.long xa), .second, .val (.long xb), .second, .val (.long xc), .second, iv 1, rv l1, .unset, .unset] [(.int 3), (.int 1)])
    refine own_st (fun _ k => XS.icmpYes X12.here hx rfl (pc0 := 49) (pc' := 63) rfl (hb hby at_49) rfl (XT.ii_lt_t (by decide)) (by decide) (by decide) k) ?_
    show own_Go p e below _ T12 (mkF m 63 #[iv p0, .val (.long xa), .second, .val (.long xb), .second, .val (.long xc), .second, iv 1, rv l1, .unset, .unset] [])
    refine own_st (fun _ k => XS.aload X12.here hx rfl (hb hby at_63) rfl rfl k) ?_
    show own_Go p e below _ T12 (mkF m 65 #[iv p0, .val (.long xa), .second, .val (.long xb), .second, .val (.long xc), .second, iv 1, rv l1, .unset, .unset] [(.ref l1)])
    obtain ⟨_, _, ⟨T13, L13, k13, n13⟩, -, X13, ⟨Lc13, hQ13, l13, y13, z13⟩, st13⟩ := Jvm.LawKit.callS X12 hx (y := (⟨"com/example/limpet/limpet/RedisBackend$Acknowledged", "notAsked", "(Ljava/util/List;)Lcom/example/limpet/limpet/RedisBackend$Acknowledged;"⟩ : MethodName)) hown (mvT hZ (hw _ (List.mem_of_getElem? (i := 26) rfl))) (mvT hZ (hw _ (List.mem_of_getElem? (i := 27) rfl))) (mvT hZ (hw _ (List.mem_of_getElem? (i := 28) rfl))) (mvT hZ (hw _ (List.mem_of_getElem? (i := 29) rfl))) (by decide) (backOf (W := 0) (own_rm_nota l Z a0 hw [] l1 T12.heap n0 Z12) hZ (hw _ (List.mem_of_getElem? (i := 29) rfl)) (hw _ (List.mem_of_getElem? (i := 28) rfl)) (by decide) (by decide)) (g := (mkF m 65 #[iv p0, .val (.long xa), .second, .val (.long xb), .second, .val (.long xc), .second, iv 1, rv l1, .unset, .unset] [(.ref l1)])) rfl (by rw [hml]; rfl) (argsL := [(.ref l1)]) (rest := []) (lenOf own_pd9 rfl) rfl (by show 2 * 0 + _ ≤ _; exact Nat.le_of_eq rfl) (hb hby at_65) (fun _ _ => ⟨rfl, rfl, (by decide : 3 + 1 ≤ _), (by decide : 14 + 4 ≤ _)⟩)
    dsimp only [Pt.U, Pt.locs, Pt.cells, Pt.slots] at X13 l13 y13 z13 st13 hQ13
    subst l13 y13 z13
    obtain ⟨k1, rfl, N13, KC13, Ek13, Fr13, Fa13, Fc13, Fx13⟩ := hQ13
    have M13 := Fr.app M12 N13
    refine own_st st13 ?_
    show own_Go p e below _ T13 (mkF m 68 #[iv p0, .val (.long xa), .second, .val (.long xb), .second, .val (.long xc), .second, iv 1, rv l1, .unset, .unset] [(.ref k1)])
    have O13 := O12.keep KC13 all0
    have V13_d1 := Vd12.keep KC13 nin0
    have E13_l1 := E12_l1.keep KC13
    have E13_b1 := E12_b1.keep KC13
    have F13_modCount_l1 := Fm12.keep KC13 nin0
    have F13_elementData_l1 := Fe12.keep KC13 nin0
    have F13_size_l1 := Fs12.keep KC13 nin0
    have F13_value_b1 := F12_value_b1.keep KC13 nin0
    have Z13 : n0 ≤ T13.heap.size := Nat.le_trans Z12 KC13.1
    refine own_st (fun _ k => XS.astore X13.here hx rfl (hb hby at_68) rfl rfl (l' := #[iv p0, .val (.long xa), .second, .val (.long xb), .second, .val (.long xc), .second, iv 1, rv l1, rv k1, .unset]) rfl k) ?_
    show own_Go p e below _ T13 (mkF m 70 #[iv p0, .val (.long xa), .second, .val (.long xb), .second, .val (.long xc), .second, iv 1, rv l1, rv k1, .unset] [])
    refine own_st (fun _ k => XS.aload X13.here hx rfl (hb hby at_70) rfl rfl k) ?_
    show own_Go p e below _ T13 (mkF m 72 #[iv p0, .val (.long xa), .second, .val (.long xb), .second, .val (.long xc), .second, iv 1, rv l1, rv k1, .unset] [(.ref k1)])
    obtain ⟨cq14, kq14, q14a, q14b, q14c⟩ := isOf hZ rfl Ek13
    obtain ⟨_, _, ⟨T14, L14, k14, n14⟩, -, X14, ⟨Lc14, hQ14, l14, y14, z14⟩, st14⟩ := X13.virtualBack hx (y := (⟨"com/example/limpet/limpet/RedisBackend$Acknowledged", "reply", "()Ljava/util/List;"⟩ : MethodName)) (z := (⟨"com/example/limpet/limpet/RedisBackend$Acknowledged", "reply", "()Ljava/util/List;"⟩ : MethodName)) hown (mvT hZ (hw _ (List.mem_of_getElem? (i := 44) rfl))) (mvT hZ (hw _ (List.mem_of_getElem? (i := 45) rfl))) (notFace_of_selects (args := #[]) (mvT hZ (hw _ (List.mem_of_getElem? (i := 47) rfl)))) (mvT hZ (hw _ (List.mem_of_getElem? (i := 47) rfl))) (mvT hZ (hw _ (List.mem_of_getElem? (i := 46) rfl))) (by decide) (backOf (W := 0) (own_rm_grep l Z a0 hw [] k1 l1 T13.heap n0 Z13 Fr13) hZ (hw _ (List.mem_of_getElem? (i := 48) rfl)) (hw _ (List.mem_of_getElem? (i := 28) rfl)) (by decide) (by decide)) q14a q14c (g := (mkF m 72 #[iv p0, .val (.long xa), .second, .val (.long xb), .second, .val (.long xc), .second, iv 1, rv l1, rv k1, .unset] [(.ref k1)])) rfl (by rw [hml]; rfl) (Steps.refl _) (argsL := []) (rest := []) (lenOf own_pd10 rfl) rfl (by show 2 * 0 + _ ≤ _; exact Nat.le_of_eq rfl) (hb hby at_72) (fun _ _ => ⟨rfl, rfl, (by decide : 4 + 0 ≤ _), (by decide : 18 + 0 ≤ _)⟩)
    dsimp only [Pt.U, Pt.locs, Pt.cells, Pt.slots] at X14 l14 y14 z14 st14 hQ14
    subst l14 y14 z14
    obtain ⟨rfl, N14, eh14⟩ := hQ14
    have M14 := Fr.app M13 N14
    refine own_tr st14 ?_
    show own_Go p e below _ T14 (mkF m 75 #[iv p0, .val (.long xa), .second, .val (.long xb), .second, .val (.long xc), .second, iv 1, rv l1, rv k1, .unset] [(.ref l1)])
    refine own_st (fun _ k => XS.astore X14.here hx rfl (hb hby at_75) rfl rfl (l' := #[iv p0, .val (.long xa), .second, .val (.long xb), .second, .val (.long xc), .second, iv 1, rv l1, rv k1, rv l1]) rfl k) ?_
    show own_Go p e below _ T14 (mkF m 77 #[iv p0, .val (.long xa), .second, .val (.long xb), .second, .val (.long xc), .second, iv 1, rv l1, rv k1, rv l1] [])
    refine own_st (fun _ k => XS.aload X14.here hx rfl (hb hby at_77) rfl rfl k) ?_
    show own_Go p e below _ T14 (mkF m 79 #[iv p0, .val (.long xa), .second, .val (.long xb), .second, .val (.long xc), .second, iv 1, rv l1, rv k1, rv l1] [(.ref l1)])
    refine own_st (fun _ k => XS.aload X14.here hx rfl (hb hby at_79) rfl rfl k) ?_
    show own_Go p e below _ T14 (mkF m 81 #[iv p0, .val (.long xa), .second, .val (.long xb), .second, .val (.long xc), .second, iv 1, rv l1, rv k1, rv l1] [(.ref l1), (.ref l1)])
    refine own_st (fun _ k => XT.acmpNo X14.here hx rfl (hb hby at_81) rfl rfl rfl (XT.aa_ne_f rfl) k) ?_
    show own_Go p e below _ T14 (mkF m 84 #[iv p0, .val (.long xa), .second, .val (.long xb), .second, .val (.long xc), .second, iv 1, rv l1, rv k1, rv l1] [])
    refine own_st (fun _ k => XS.aload X14.here hx rfl (hb hby at_84) rfl rfl k) ?_
    show own_Go p e below _ T14 (mkF m 86 #[iv p0, .val (.long xa), .second, .val (.long xb), .second, .val (.long xc), .second, iv 1, rv l1, rv k1, rv l1] [(.ref l1)])
    obtain ⟨cq15, kq15, q15a, q15b, q15c⟩ := isOf hZ eh14 E13_l1
    obtain ⟨_, _, ⟨T15, L15, k15, n15⟩, -, X15, ⟨Lc15, hQ15, l15, y15, z15⟩, st15⟩ := X14.interfaceBack hx (xi := (⟨"java/util/List", "size", "()I"⟩ : MethodName)) (y := (⟨"java/util/ArrayList", "size", "()I"⟩ : MethodName)) hown (mvT hZ (hw _ (List.mem_of_getElem? (i := 49) rfl))) (mvT hZ (hw _ (List.mem_of_getElem? (i := 50) rfl))) (mvT hZ (hw _ (List.mem_of_getElem? (i := 51) rfl))) (mvT hZ (hw _ (List.mem_of_getElem? (i := 52) rfl))) (mvT hZ (hw _ (List.mem_of_getElem? (i := 53) rfl))) (mvT hZ (hw _ (List.mem_of_getElem? (i := 54) rfl))) (mvT hZ (hw _ (List.mem_of_getElem? (i := 55) rfl))) (mvT hZ (hw _ (List.mem_of_getElem? (i := 56) rfl))) (by decide) (backOf (W := 0) (own_rm_size l Z a0 hw [] l1 (1 : Int32) T13.heap n0 Z13 F13_size_l1) hZ (hw _ (List.mem_of_getElem? (i := 57) rfl)) (hw _ (List.mem_of_getElem? (i := 2) rfl)) (by decide) (by decide)) q15a q15b q15c (g := (mkF m 86 #[iv p0, .val (.long xa), .second, .val (.long xb), .second, .val (.long xc), .second, iv 1, rv l1, rv k1, rv l1] [(.ref l1)])) rfl (by rw [hml]; rfl) (Steps.refl _) (argsL := []) (rest := []) (lenOf own_pd11 rfl) rfl (by show 2 * 0 + _ ≤ _; exact Nat.le_of_eq rfl) (hb hby at_86) (fun _ _ => ⟨rfl, eh14, (by decide : 4 + 0 ≤ _), (by decide : 18 + 0 ≤ _)⟩)
    dsimp only [Pt.U, Pt.locs, Pt.cells, Pt.slots] at X15 l15 y15 z15 st15 hQ15
    subst l15 y15 z15
    obtain ⟨rfl, N15, eh15⟩ := hQ15
    have M15 := Fr.app M14 N15
    refine own_tr st15 ?_
    show own_Go p e below _ T15 (mkF m 91 #[iv p0, .val (.long xa), .second, .val (.long xb), .second, .val (.long xc), .second, iv 1, rv l1, rv k1, rv l1] [(.int 1)])
    refine own_st (fun _ k => XS.iload X15.here hx rfl (hb hby at_91) rfl k) ?_
    show own_Go p e below _ T15 (mkF m 93 #[iv p0, .val (.long xa), .second, .val (.long xb), .second, .val (.long xc), .second, iv 1, rv l1, rv k1, rv l1] [(.int 1), (.int 1)])
    refine own_st (fun _ k => XS.icmpYes X15.here hx rfl (pc0 := 93) (pc' := 98) rfl (hb hby at_93) rfl (XT.ii_eq_t rfl) (by decide) (by decide) k) ?_
    show own_Go p e below _ T15 (mkF m 98 #[iv p0, .val (.long xa), .second, .val (.long xb), .second, .val (.long xc), .second, iv 1, rv l1, rv k1, rv l1] [])
    refine own_st (fun _ k => XS.iload X15.here hx rfl (hb hby at_98) rfl k) ?_
    show own_Go p e below _ T15 (mkF m 100 #[iv p0, .val (.long xa), .second, .val (.long xb), .second, .val (.long xc), .second, iv 1, rv l1, rv k1, rv l1] [(.int 1)])
    refine own_st (fun _ k => XT.iconstV X15.here hx rfl (1 : Int32) (hb hby at_100) (by decide) k) ?_
    show own_Go p e below _ T15 (mkF m 101 #[iv p0, .val (.long xa), .second, .val (.long xb), .second, .val (.long xc), .second, iv 1, rv l1, rv k1, rv l1] [(.int 1), (.int 1)])
    refine own_st (fun _ k => XS.icmpNo X15.here hx rfl (hb hby at_101) rfl (XT.ii_lt_f (by decide)) k) ?_
    show own_Go p e below _ T15 (mkF m 104 #[iv p0, .val (.long xa), .second, .val (.long xb), .second, .val (.long xc), .second, iv 1, rv l1, rv k1, rv l1] [])
    refine own_st (fun _ k => XS.aload X15.here hx rfl (hb hby at_104) rfl rfl k) ?_
    show own_Go p e below _ T15 (mkF m 106 #[iv p0, .val (.long xa), .second, .val (.long xb), .second, .val (.long xc), .second, iv 1, rv l1, rv k1, rv l1] [(.ref l1)])
    refine own_st (fun _ k => XT.iconstV X15.here hx rfl (0 : Int32) (hb hby at_106) (by decide) k) ?_
    show own_Go p e below _ T15 (mkF m 107 #[iv p0, .val (.long xa), .second, .val (.long xb), .second, .val (.long xc), .second, iv 1, rv l1, rv k1, rv l1] [(.int 0), (.ref l1)])
    obtain ⟨cq16, kq16, q16a, q16b, q16c⟩ := isOf hZ eh15 E13_l1
    obtain ⟨_, _, ⟨T16, L16, k16, n16⟩, -, X16, ⟨Lc16, hQ16, l16, y16, z16⟩, st16⟩ := X15.interfaceBack hx (xi := (⟨"java/util/List", "get", "(I)Ljava/lang/Object;"⟩ : MethodName)) (y := (⟨"java/util/ArrayList", "get", "(I)Ljava/lang/Object;"⟩ : MethodName)) hown (mvT hZ (hw _ (List.mem_of_getElem? (i := 132) rfl))) (mvT hZ (hw _ (List.mem_of_getElem? (i := 133) rfl))) (mvT hZ (hw _ (List.mem_of_getElem? (i := 134) rfl))) (mvT hZ (hw _ (List.mem_of_getElem? (i := 135) rfl))) (mvT hZ (hw _ (List.mem_of_getElem? (i := 136) rfl))) (mvT hZ (hw _ (List.mem_of_getElem? (i := 137) rfl))) (mvT hZ (hw _ (List.mem_of_getElem? (i := 138) rfl))) (mvT hZ (hw _ (List.mem_of_getElem? (i := 56) rfl))) (by decide) (backOf (W := 0) (own_rm_get l Z a0 hw [] l1 d1 k_d1 (0 : Int32) [(.ref b1), .null, .null, .null, .null, .null, .null, .null, .null, .null] b1 (1 : Int32) T13.heap n0 Z13 F13_elementData_l1 V13_d1 (by decide) (by decide) rfl F13_size_l1 (by decide) E13_l1) hZ (hw _ (List.mem_of_getElem? (i := 139) rfl)) (hw _ (List.mem_of_getElem? (i := 2) rfl)) (by decide) (by decide)) q16a q16b q16c (g := (mkF m 107 #[iv p0, .val (.long xa), .second, .val (.long xb), .second, .val (.long xc), .second, iv 1, rv l1, rv k1, rv l1] [(.int 0), (.ref l1)])) rfl (by rw [hml]; rfl) (Steps.refl _) (argsL := [(.int (0 : Int32))]) (rest := []) (lenOf own_pd7 rfl) rfl (by show 2 * 0 + _ ≤ _; exact Nat.le_of_eq rfl) (hb hby at_107) (fun _ _ => ⟨rfl, eh15, (by decide : 4 + 0 ≤ _), (by decide : 18 + 0 ≤ _)⟩)
    dsimp only [Pt.U, Pt.locs, Pt.cells, Pt.slots] at X16 l16 y16 z16 st16 hQ16
    subst l16 y16 z16
    obtain ⟨rfl, N16, eh16⟩ := hQ16
    have M16 := Fr.app M15 N16
    refine own_tr st16 ?_
    show own_Go p e below _ T16 (mkF m 112 #[iv p0, .val (.long xa), .second, .val (.long xb), .second, .val (.long xc), .second, iv 1, rv l1, rv k1, rv l1] [(.ref b1)])
    obtain ⟨T17, X17, e17, st17⟩ := castY X16 hx hZ hown (hw _ (List.mem_of_getElem? (i := 153) rfl)) eh16 (Ins.self E13_b1) (g := (mkF m 112 #[iv p0, .val (.long xa), .second, .val (.long xb), .second, .val (.long xc), .second, iv 1, rv l1, rv k1, rv l1] [(.ref b1)])) rfl rfl (hb hby at_112)
    refine own_st st17 ?_
    show own_Go p e below _ T17 (mkF m 115 #[iv p0, .val (.long xa), .second, .val (.long xb), .second, .val (.long xc), .second, iv 1, rv l1, rv k1, rv l1] [(.ref b1)])
    obtain ⟨cq18, kq18, q18a, q18b, q18c⟩ := isOf hZ e17 E13_b1
    obtain ⟨_, _, ⟨T18, L18, k18, n18⟩, -, X18, ⟨Lc18, hQ18, l18, y18, z18⟩, st18⟩ := X17.virtualBack hx (y := (⟨"java/lang/Long", "longValue", "()J"⟩ : MethodName)) (z := (⟨"java/lang/Long", "longValue", "()J"⟩ : MethodName)) hown (mvT hZ (hw _ (List.mem_of_getElem? (i := 154) rfl))) (mvT hZ (hw _ (List.mem_of_getElem? (i := 155) rfl))) (notFace_of_selects (args := #[]) (mvT hZ (hw _ (List.mem_of_getElem? (i := 157) rfl)))) (mvT hZ (hw _ (List.mem_of_getElem? (i := 157) rfl))) (mvT hZ (hw _ (List.mem_of_getElem? (i := 156) rfl))) (by decide) (backOf (W := 0) (own_rm_lval l Z a0 hw [] b1 xa T13.heap n0 Z13 F13_value_b1) hZ (hw _ (List.mem_of_getElem? (i := 158) rfl)) (hw _ (List.mem_of_getElem? (i := 82) rfl)) (by decide) (by decide)) q18a q18c (g := (mkF m 115 #[iv p0, .val (.long xa), .second, .val (.long xb), .second, .val (.long xc), .second, iv 1, rv l1, rv k1, rv l1] [(.ref b1)])) rfl (by rw [hml]; rfl) (Steps.refl _) (argsL := []) (rest := []) (lenOf own_pd12 rfl) rfl (by show 2 * 0 + _ ≤ _; exact Nat.le_of_eq rfl) (hb hby at_115) (fun _ _ => ⟨rfl, e17, (by decide : 4 + 0 ≤ _), (by decide : 18 + 0 ≤ _)⟩)
    dsimp only [Pt.U, Pt.locs, Pt.cells, Pt.slots] at X18 l18 y18 z18 st18 hQ18
    subst l18 y18 z18
    obtain ⟨rfl, N18, eh18⟩ := hQ18
    have M18 := Fr.app M16 N18
    refine own_tr st18 ?_
    show own_Go p e below _ T18 (mkF m 118 #[iv p0, .val (.long xa), .second, .val (.long xb), .second, .val (.long xc), .second, iv 1, rv l1, rv k1, rv l1] [(.long xa)])
    refine own_st (fun _ k => XT.lloadN X18.here hx rfl (hb hby at_118) rfl k) ?_
    show own_Go p e below _ T18 (mkF m 119 #[iv p0, .val (.long xa), .second, .val (.long xb), .second, .val (.long xc), .second, iv 1, rv l1, rv k1, rv l1] [(.long xa), (.long xa)])
    refine own_st (fun _ k => XT.lcmp X18.here hx rfl (hb hby at_119) rfl k) ?_
    show own_Go p e below _ T18 (mkF m 120 #[iv p0, .val (.long xa), .second, .val (.long xb), .second, .val (.long xc), .second, iv 1, rv l1, rv k1, rv l1] [(.int (XT.cmpL xa xa))])
    refine own_st (fun _ k => XS.ifYes X18.here hx rfl (pc0 := 120) (pc' := 125) rfl (hb hby at_120) rfl (XT.ll_eq_t rfl) (by decide) (by decide) k) ?_
    show own_Go p e below _ T18 (mkF m 125 #[iv p0, .val (.long xa), .second, .val (.long xb), .second, .val (.long xc), .second, iv 1, rv l1, rv k1, rv l1] [])
    refine own_st (fun _ k => XS.iload X18.here hx rfl (hb hby at_125) rfl k) ?_
    show own_Go p e below _ T18 (mkF m 127 #[iv p0, .val (.long xa), .second, .val (.long xb), .second, .val (.long xc), .second, iv 1, rv l1, rv k1, rv l1] [(.int 1)])
    refine own_st (fun _ k => XT.iconstV X18.here hx rfl (2 : Int32) (hb hby at_127) (by decide) k) ?_
    show own_Go p e below _ T18 (mkF m 128 #[iv p0, .val (.long xa), .second, .val (.long xb), .second, .val (.long xc), .second, iv 1, rv l1, rv k1, rv l1] [(.int 2), (.int 1)])
    refine own_st (fun _ k => XS.icmpYes X18.here hx rfl (pc0 := 128) (pc' := 152) rfl (hb hby at_128) rfl (XT.ii_lt_t (by decide)) (by decide) (by decide) k) ?_
    show own_Go p e below _ T18 (mkF m 152 #[iv p0, .val (.long xa), .second, .val (.long xb), .second, .val (.long xc), .second, iv 1, rv l1, rv k1, rv l1] [])
    refine own_st (fun _ k => XS.iload X18.here hx rfl (hb hby at_152) rfl k) ?_
    show own_Go p e below _ T18 (mkF m 154 #[iv p0, .val (.long xa), .second, .val (.long xb), .second, .val (.long xc), .second, iv 1, rv l1, rv k1, rv l1] [(.int 1)])
    refine own_st (fun _ k => XT.iconstV X18.here hx rfl (3 : Int32) (hb hby at_154) (by decide) k) ?_
    show own_Go p e below _ T18 (mkF m 155 #[iv p0, .val (.long xa), .second, .val (.long xb), .second, .val (.long xc), .second, iv 1, rv l1, rv k1, rv l1] [(.int 3), (.int 1)])
    refine own_st (fun _ k => XS.icmpYes X18.here hx rfl (pc0 := 155) (pc' := 180) rfl (hb hby at_155) rfl (XT.ii_lt_t (by decide)) (by decide) (by decide) k) ?_
    show own_Go p e below _ T18 (mkF m 180 #[iv p0, .val (.long xa), .second, .val (.long xb), .second, .val (.long xc), .second, iv 1, rv l1, rv k1, rv l1] [])
    refine own_st (fun _ k => XS.aload X18.here hx rfl (hb hby at_180) rfl rfl k) ?_
    show own_Go p e below _ T18 (mkF m 182 #[iv p0, .val (.long xa), .second, .val (.long xb), .second, .val (.long xc), .second, iv 1, rv l1, rv k1, rv l1] [(.ref k1)])
    obtain ⟨cq19, kq19, q19a, q19b, q19c⟩ := isOf hZ eh18 Ek13
    obtain ⟨_, _, ⟨T19, L19, k19, n19⟩, -, X19, ⟨Lc19, hQ19, l19, y19, z19⟩, st19⟩ := X18.virtualBack hx (y := (⟨"com/example/limpet/limpet/RedisBackend$Acknowledged", "asked", "()I"⟩ : MethodName)) (z := (⟨"com/example/limpet/limpet/RedisBackend$Acknowledged", "asked", "()I"⟩ : MethodName)) hown (mvT hZ (hw _ (List.mem_of_getElem? (i := 60) rfl))) (mvT hZ (hw _ (List.mem_of_getElem? (i := 61) rfl))) (notFace_of_selects (args := #[]) (mvT hZ (hw _ (List.mem_of_getElem? (i := 63) rfl)))) (mvT hZ (hw _ (List.mem_of_getElem? (i := 63) rfl))) (mvT hZ (hw _ (List.mem_of_getElem? (i := 62) rfl))) (by decide) (backOf (W := 0) (own_rm_gask l Z a0 hw [] k1 T13.heap n0 Z13 Fa13) hZ (hw _ (List.mem_of_getElem? (i := 64) rfl)) (hw _ (List.mem_of_getElem? (i := 28) rfl)) (by decide) (by decide)) q19a q19c (g := (mkF m 182 #[iv p0, .val (.long xa), .second, .val (.long xb), .second, .val (.long xc), .second, iv 1, rv l1, rv k1, rv l1] [(.ref k1)])) rfl (by rw [hml]; rfl) (Steps.refl _) (argsL := []) (rest := []) (lenOf own_pd11 rfl) rfl (by show 2 * 0 + _ ≤ _; exact Nat.le_of_eq rfl) (hb hby at_182) (fun _ _ => ⟨rfl, eh18, (by decide : 4 + 0 ≤ _), (by decide : 18 + 0 ≤ _)⟩)
    dsimp only [Pt.U, Pt.locs, Pt.cells, Pt.slots] at X19 l19 y19 z19 st19 hQ19
    subst l19 y19 z19
    obtain ⟨rfl, N19, eh19⟩ := hQ19
    have M19 := Fr.app M18 N19
    refine own_tr st19 ?_
    show own_Go p e below _ T19 (mkF m 185 #[iv p0, .val (.long xa), .second, .val (.long xb), .second, .val (.long xc), .second, iv 1, rv l1, rv k1, rv l1] [(.int 0)])
    refine own_st (fun _ k => XS.ifNo X19.here hx rfl (hb hby at_185) rfl (XT.i0_ne_f rfl) k) ?_
    show own_Go p e below _ T19 (mkF m 188 #[iv p0, .val (.long xa), .second, .val (.long xb), .second, .val (.long xc), .second, iv 1, rv l1, rv k1, rv l1] [])
    refine own_st (fun _ k => XS.aload X19.here hx rfl (hb hby at_188) rfl rfl k) ?_
    show own_Go p e below _ T19 (mkF m 190 #[iv p0, .val (.long xa), .second, .val (.long xb), .second, .val (.long xc), .second, iv 1, rv l1, rv k1, rv l1] [(.ref k1)])
    obtain ⟨cq20, kq20, q20a, q20b, q20c⟩ := isOf hZ eh19 Ek13
    obtain ⟨_, _, ⟨T20, L20, k20, n20⟩, -, X20, ⟨Lc20, hQ20, l20, y20, z20⟩, st20⟩ := X19.virtualBack hx (y := (⟨"com/example/limpet/limpet/RedisBackend$Acknowledged", "acknowledged", "()J"⟩ : MethodName)) (z := (⟨"com/example/limpet/limpet/RedisBackend$Acknowledged", "acknowledged", "()J"⟩ : MethodName)) hown (mvT hZ (hw _ (List.mem_of_getElem? (i := 65) rfl))) (mvT hZ (hw _ (List.mem_of_getElem? (i := 66) rfl))) (notFace_of_selects (args := #[]) (mvT hZ (hw _ (List.mem_of_getElem? (i := 68) rfl)))) (mvT hZ (hw _ (List.mem_of_getElem? (i := 68) rfl))) (mvT hZ (hw _ (List.mem_of_getElem? (i := 67) rfl))) (by decide) (backOf (W := 0) (own_rm_gack l Z a0 hw [] k1 T13.heap n0 Z13 Fc13) hZ (hw _ (List.mem_of_getElem? (i := 69) rfl)) (hw _ (List.mem_of_getElem? (i := 28) rfl)) (by decide) (by decide)) q20a q20c (g := (mkF m 190 #[iv p0, .val (.long xa), .second, .val (.long xb), .second, .val (.long xc), .second, iv 1, rv l1, rv k1, rv l1] [(.ref k1)])) rfl (by rw [hml]; rfl) (Steps.refl _) (argsL := []) (rest := []) (lenOf own_pd12 rfl) rfl (by show 2 * 0 + _ ≤ _; exact Nat.le_of_eq rfl) (hb hby at_190) (fun _ _ => ⟨rfl, eh19, (by decide : 4 + 0 ≤ _), (by decide : 18 + 0 ≤ _)⟩)
    dsimp only [Pt.U, Pt.locs, Pt.cells, Pt.slots] at X20 l20 y20 z20 st20 hQ20
    subst l20 y20 z20
    obtain ⟨rfl, N20, eh20⟩ := hQ20
    have M20 := Fr.app M19 N20
    refine own_tr st20 ?_
    show own_Go p e below _ T20 (mkF m 193 #[iv p0, .val (.long xa), .second, .val (.long xb), .second, .val (.long xc), .second, iv 1, rv l1, rv k1, rv l1] [(.long 0)])
    refine own_st (fun _ k => XT.lconstV X20.here hx rfl (0 : Int64) (hb hby at_193) (by decide) k) ?_
    show own_Go p e below _ T20 (mkF m 194 #[iv p0, .val (.long xa), .second, .val (.long xb), .second, .val (.long xc), .second, iv 1, rv l1, rv k1, rv l1] [(.long 0), (.long 0)])
    refine own_st (fun _ k => XT.lcmp X20.here hx rfl (hb hby at_194) rfl k) ?_
    show own_Go p e below _ T20 (mkF m 195 #[iv p0, .val (.long xa), .second, .val (.long xb), .second, .val (.long xc), .second, iv 1, rv l1, rv k1, rv l1] [(.int (XT.cmpL 0 0))])
    refine own_st (fun _ k => XS.ifNo X20.here hx rfl (hb hby at_195) rfl (XT.ll_ne_f rfl) k) ?_
    show own_Go p e below _ T20 (mkF m 198 #[iv p0, .val (.long xa), .second, .val (.long xb), .second, .val (.long xc), .second, iv 1, rv l1, rv k1, rv l1] [])
    refine own_st (fun _ k => XS.aload X20.here hx rfl (hb hby at_198) rfl rfl k) ?_
    show own_Go p e below _ T20 (mkF m 200 #[iv p0, .val (.long xa), .second, .val (.long xb), .second, .val (.long xc), .second, iv 1, rv l1, rv k1, rv l1] [(.ref k1)])
    obtain ⟨cq21, kq21, q21a, q21b, q21c⟩ := isOf hZ eh20 Ek13
    obtain ⟨_, _, ⟨T21, L21, k21, n21⟩, -, X21, ⟨Lc21, hQ21, l21, y21, z21⟩, st21⟩ := X20.virtualBack hx (y := (⟨"com/example/limpet/limpet/RedisBackend$Acknowledged", "failure", "()Ljava/lang/RuntimeException;"⟩ : MethodName)) (z := (⟨"com/example/limpet/limpet/RedisBackend$Acknowledged", "failure", "()Ljava/lang/RuntimeException;"⟩ : MethodName)) hown (mvT hZ (hw _ (List.mem_of_getElem? (i := 70) rfl))) (mvT hZ (hw _ (List.mem_of_getElem? (i := 71) rfl))) (notFace_of_selects (args := #[]) (mvT hZ (hw _ (List.mem_of_getElem? (i := 73) rfl)))) (mvT hZ (hw _ (List.mem_of_getElem? (i := 73) rfl))) (mvT hZ (hw _ (List.mem_of_getElem? (i := 72) rfl))) (by decide) (backOf (W := 0) (own_rm_gfail l Z a0 hw [] k1 T13.heap n0 Z13 Fx13) hZ (hw _ (List.mem_of_getElem? (i := 74) rfl)) (hw _ (List.mem_of_getElem? (i := 28) rfl)) (by decide) (by decide)) q21a q21c (g := (mkF m 200 #[iv p0, .val (.long xa), .second, .val (.long xb), .second, .val (.long xc), .second, iv 1, rv l1, rv k1, rv l1] [(.ref k1)])) rfl (by rw [hml]; rfl) (Steps.refl _) (argsL := []) (rest := []) (lenOf own_pd13 rfl) rfl (by show 2 * 0 + _ ≤ _; exact Nat.le_of_eq rfl) (hb hby at_200) (fun _ _ => ⟨rfl, eh20, (by decide : 4 + 0 ≤ _), (by decide : 18 + 0 ≤ _)⟩)
    dsimp only [Pt.U, Pt.locs, Pt.cells, Pt.slots] at X21 l21 y21 z21 st21 hQ21
    subst l21 y21 z21
    obtain ⟨rfl, N21, eh21⟩ := hQ21
    have M21 := Fr.app M20 N21
    refine own_tr st21 ?_
    show own_Go p e below _ T21 (mkF m 203 #[iv p0, .val (.long xa), .second, .val (.long xb), .second, .val (.long xc), .second, iv 1, rv l1, rv k1, rv l1] [.null])
    refine own_st (fun _ k => XT.ifnonnullNo X21.here hx rfl (hb hby at_203) rfl k) ?_
    show own_Go p e below _ T21 (mkF m 206 #[iv p0, .val (.long xa), .second, .val (.long xb), .second, .val (.long xc), .second, iv 1, rv l1, rv k1, rv l1] [])
    refine own_st (fun _ k => XS.aload X21.here hx rfl (hb hby at_206) rfl rfl k) ?_
    show own_Go p e below _ T21 (mkF m 208 #[iv p0, .val (.long xa), .second, .val (.long xb), .second, .val (.long xc), .second, iv 1, rv l1, rv k1, rv l1] [(.ref k1)])
    obtain ⟨cq22, kq22, q22a, q22b, q22c⟩ := isOf hZ eh21 Ek13
    obtain ⟨_, _, ⟨T22, L22, k22, n22⟩, -, X22, ⟨Lc22, hQ22, l22, y22, z22⟩, st22⟩ := X21.virtualBack hx (y := (⟨"com/example/limpet/limpet/RedisBackend$Acknowledged", "counts", "()Z"⟩ : MethodName)) (z := (⟨"com/example/limpet/limpet/RedisBackend$Acknowledged", "counts", "()Z"⟩ : MethodName)) hown (mvT hZ (hw _ (List.mem_of_getElem? (i := 75) rfl))) (mvT hZ (hw _ (List.mem_of_getElem? (i := 76) rfl))) (notFace_of_selects (args := #[]) (mvT hZ (hw _ (List.mem_of_getElem? (i := 78) rfl)))) (mvT hZ (hw _ (List.mem_of_getElem? (i := 78) rfl))) (mvT hZ (hw _ (List.mem_of_getElem? (i := 77) rfl))) (by decide) (backOf (W := 0) (own_rm_gcnt l Z a0 hw [] k1 T13.heap n0 Z13 Fa13) hZ (hw _ (List.mem_of_getElem? (i := 79) rfl)) (hw _ (List.mem_of_getElem? (i := 28) rfl)) (by decide) (by decide)) q22a q22c (g := (mkF m 208 #[iv p0, .val (.long xa), .second, .val (.long xb), .second, .val (.long xc), .second, iv 1, rv l1, rv k1, rv l1] [(.ref k1)])) rfl (by rw [hml]; rfl) (Steps.refl _) (argsL := []) (rest := []) (lenOf own_pd14 rfl) rfl (by show 2 * 0 + _ ≤ _; exact Nat.le_of_eq rfl) (hb hby at_208) (fun _ _ => ⟨rfl, eh21, (by decide : 4 + 0 ≤ _), (by decide : 18 + 0 ≤ _)⟩)
    dsimp only [Pt.U, Pt.locs, Pt.cells, Pt.slots] at X22 l22 y22 z22 st22 hQ22
    subst l22 y22 z22
    obtain ⟨rfl, N22, eh22⟩ := hQ22
    have M22 := Fr.app M21 N22
    refine own_tr st22 ?_
    show own_Go p e below _ T22 (mkF m 211 #[iv p0, .val (.long xa), .second, .val (.long xb), .second, .val (.long xc), .second, iv 1, rv l1, rv k1, rv l1] [(.int 1)])
    refine own_st (fun _ k => XS.ifNo X22.here hx rfl (hb hby at_211) rfl (XT.i0_eq_f (by decide)) k) ?_
    show own_Go p e below _ T22 (mkF m 214 #[iv p0, .val (.long xa), .second, .val (.long xb), .second, .val (.long xc), .second, iv 1, rv l1, rv k1, rv l1] [])
    refine own_st (fun _ k => XT.iconstV X22.here hx rfl (1 : Int32) (hb hby at_214) (by decide) k) ?_
    show own_Go p e below _ T22 (mkF m 215 #[iv p0, .val (.long xa), .second, .val (.long xb), .second, .val (.long xc), .second, iv 1, rv l1, rv k1, rv l1] [(.int 1)])
    refine own_st (fun _ k => XS.goto X22.here hx rfl (pc0 := 215) (pc' := 219) rfl (hb hby at_215) (by decide) (by decide) k) ?_
    show own_Go p e below _ T22 (mkF m 219 #[iv p0, .val (.long xa), .second, .val (.long xb), .second, .val (.long xc), .second, iv 1, rv l1, rv k1, rv l1] [(.int 1)])
    refine own_retN X22 hx Bd.notSynchronized (t := .boolean) Bd.returns (by simp) (hb hby at_219) (by decide) (by decide) ?_
    rw [eh22]
    exact ⟨rfl, M22⟩
  · show own_Go p e below _ T2 (mkF m 17 #[iv p0, .val (.long xa), .second, .val (.long xb), .second, .val (.long xc), .second, iv 2, rv l1, .unset, .unset] [(.int 1), (.int 2)])
    refine own_st (fun _ k => XS.icmpNo X2.here hx rfl (hb hby at_17) rfl (XT.ii_lt_f (by decide)) k) ?_
    show own_Go p e below _ T2 (mkF m 20 #[iv p0, .val (.long xa), .second, .val (.long xb), .second, .val (.long xc), .second, iv 2, rv l1, .unset, .unset] [])
    refine own_st (fun _ k => XS.aload X2.here hx rfl (hb hby at_20) rfl rfl k) ?_
    show own_Go p e below _ T2 (mkF m 22 #[iv p0, .val (.long xa), .second, .val (.long xb), .second, .val (.long xc), .second, iv 2, rv l1, .unset, .unset] [(.ref l1)])
    refine own_st (fun _ k => XT.lloadN X2.here hx rfl (hb hby at_22) rfl k) ?_
    show own_Go p e below _ T2 (mkF m 23 #[iv p0, .val (.long xa), .second, .val (.long xb), .second, .val (.long xc), .second, iv 2, rv l1, .unset, .unset] [(.long xa), (.ref l1)])
    obtain ⟨_, _, ⟨T24, L24, k24, n24⟩, -, X24, ⟨Lc24, hQ24, l24, y24, z24⟩, st24⟩ := Jvm.LawKit.callS X2 hx (y := (⟨"java/lang/Long", "valueOf", "(J)Ljava/lang/Long;"⟩ : MethodName)) hown (mvT hZ (hw _ (List.mem_of_getElem? (i := 80) rfl))) (mvT hZ (hw _ (List.mem_of_getElem? (i := 81) rfl))) (mvT hZ (hw _ (List.mem_of_getElem? (i := 82) rfl))) (mvT hZ (hw _ (List.mem_of_getElem? (i := 83) rfl))) (by decide) (backOf (W := 1) (own_rm_valof l Z a0 hw [] xa w_C T2.heap n0 Z2 O2 S_C hcache) hZ (hw _ (List.mem_of_getElem? (i := 83) rfl)) (hw _ (List.mem_of_getElem? (i := 82) rfl)) (by decide) (by decide)) (g := (mkF m 23 #[iv p0, .val (.long xa), .second, .val (.long xb), .second, .val (.long xc), .second, iv 2, rv l1, .unset, .unset] [(.long xa), (.ref l1)])) rfl (by rw [hml]; rfl) (argsL := [(.long xa)]) (rest := [(.ref l1)]) (lenOf own_pd15 rfl) rfl (by show 2 * 0 + _ ≤ _; exact Nat.le_of_eq rfl) (hb hby at_23) (fun _ _ => ⟨rfl, rfl, (by decide : 1 + 1 ≤ _), (by decide : 3 + 1 ≤ _)⟩)
    dsimp only [Pt.U, Pt.locs, Pt.cells, Pt.slots] at X24 l24 y24 z24 st24 hQ24
    subst l24 y24 z24
    obtain ⟨b1, rfl, N24, KC24, Eb24, Fv24⟩ := hQ24
    have M24 := Fr.app M2 N24
    refine own_st st24 ?_
    show own_Go p e below _ T24 (mkF m 26 #[iv p0, .val (.long xa), .second, .val (.long xb), .second, .val (.long xc), .second, iv 2, rv l1, .unset, .unset] [(.ref b1), (.ref l1)])
    have O24 := O2.keep KC24 all0
    have E24_l1 := E2_l1.keep KC24
    have F24_modCount_l1 := Fm2.keep KC24 nin0
    have F24_elementData_l1 := Fe2.keep KC24 nin0
    have F24_size_l1 := Fs2.keep KC24 nin0
    have Z24 : n0 ≤ T24.heap.size := Nat.le_trans Z2 KC24.1
    have ne_b1_l1 : b1 ≠ l1 := ne_exa Eb24 E24_l1 (by decide)
    obtain ⟨cq25, kq25, q25a, q25b, q25c⟩ := isOf hZ rfl E24_l1
    obtain ⟨_, _, ⟨T25, L25, k25, n25⟩, -, X25, ⟨Lc25, hQ25, l25, y25, z25⟩, st25⟩ := X24.virtualBack hx (y := (⟨"java/util/ArrayList", "add", "(Ljava/lang/Object;)Z"⟩ : MethodName)) (z := (⟨"java/util/ArrayList", "add", "(Ljava/lang/Object;)Z"⟩ : MethodName)) hown (mvT hZ (hw _ (List.mem_of_getElem? (i := 88) rfl))) (mvT hZ (hw _ (List.mem_of_getElem? (i := 89) rfl))) (notFace_of_selects (args := #[]) (mvT hZ (hw _ (List.mem_of_getElem? (i := 91) rfl)))) (mvT hZ (hw _ (List.mem_of_getElem? (i := 91) rfl))) (mvT hZ (hw _ (List.mem_of_getElem? (i := 90) rfl))) (by decide) (backOf (W := 0) (own_rm_add1a l Z a0 hw [] l1 b1 w_D k_D (0 : Int32) T24.heap n0 Z24 E24_l1 F24_modCount_l1 F24_elementData_l1 F24_size_l1 g_l1 O24 S_D V_D Eb24) hZ (hw _ (List.mem_of_getElem? (i := 92) rfl)) (hw _ (List.mem_of_getElem? (i := 2) rfl)) (by decide) (by decide)) q25a q25c (g := (mkF m 26 #[iv p0, .val (.long xa), .second, .val (.long xb), .second, .val (.long xc), .second, iv 2, rv l1, .unset, .unset] [(.ref b1), (.ref l1)])) rfl (by rw [hml]; rfl) (Steps.refl _) (argsL := [(.ref b1)]) (rest := []) (lenOf own_pd16 rfl) rfl (by show 2 * 0 + _ ≤ _; exact Nat.le_of_eq rfl) (hb hby at_26) (fun _ _ => ⟨rfl, rfl, (by decide : 2 + 1 ≤ _), (by decide : 4 + 10 ≤ _)⟩)
    dsimp only [Pt.U, Pt.locs, Pt.cells, Pt.slots] at X25 l25 y25 z25 st25 hQ25
    subst l25 y25 z25
    obtain ⟨d1, k_d1, rfl, N25, KC25, Fm25, Fe25, Fs25, Vd25, Ov_d1, sz_d1⟩ := hQ25
    have M25 := Fr.app M24 N25
    refine own_tr st25 ?_
    show own_Go p e below _ T25 (mkF m 29 #[iv p0, .val (.long xa), .second, .val (.long xb), .second, .val (.long xc), .second, iv 2, rv l1, .unset, .unset] [(.int 1)])
    have O25 := O24.keep KC25 (allS g_l1 all0)
    have E25_l1 := E24_l1.keep KC25
    have E25_b1 := Eb24.keep KC25
    have F25_value_b1 := Fv24.keep KC25 (ninS ne_b1_l1 nin0)
    have Z25 : n0 ≤ T25.heap.size := Nat.le_trans Z24 KC25.1
    have g_d1 : n0 ≤ d1 := Nat.le_trans Z24 sz_d1
    have ne_l1_d1 : l1 ≠ d1 := Nat.ne_of_lt (Nat.lt_of_lt_of_le E24_l1.lt sz_d1)
    have ne_b1_d1 : b1 ≠ d1 := Nat.ne_of_lt (Nat.lt_of_lt_of_le Eb24.lt sz_d1)
    refine own_st (fun _ k => XT.pop X25.here hx rfl (hb hby at_29) rfl rfl k) ?_
    show own_Go p e below _ T25 (mkF m 30 #[iv p0, .val (.long xa), .second, .val (.long xb), .second, .val (.long xc), .second, iv 2, rv l1, .unset, .unset] [])
    refine own_st (fun _ k => XS.iload X25.here hx rfl (hb hby at_30) rfl k) ?_
    show own_Go p e below _ T25 (mkF m 32 #[iv p0, .val (.long xa), .second, .val (.long xb), .second, .val (.long xc), .second, iv 2, rv l1, .unset, .unset] [(.int 2)])
    refine own_st (fun _ k => XT.iconstV X25.here hx rfl (2 : Int32) (hb hby at_32) (by decide) k) ?_
    show own_Go p e below _ T25 (mkF m 33 #[iv p0, .val (.long xa), .second, .val (.long xb), .second, .val (.long xc), .second, iv 2, rv l1, .unset, .unset] [(.int 2), (.int 2)])
    refine own_st (fun _ k => XS.icmpNo X25.here hx rfl (hb hby at_33) rfl (XT.ii_lt_f (by decide)) k) ?_
    show own_Go p e below _ T25 (mkF m 36 #[iv p0, .val (.long xa), .second, .val (.long xb), .second, .val (.long xc), .second, iv 2, rv l1, .unset, .unset] [])
    refine own_st (fun _ k => XS.aload X25.here hx rfl (hb hby at_36) rfl rfl k) ?_
    show own_Go p e below _ T25 (mkF m 38 #[iv p0, .val (.long xa), .second, .val (.long xb), .second, .val (.long xc), .second, iv 2, rv l1, .unset, .unset] [(.ref l1)])
    refine own_st (fun _ k => XT.lloadN X25.here hx rfl (hb hby at_38) rfl k) ?_
    show own_Go p e below _ T25 (mkF m 39 #[iv p0, .val (.long xa), .second, .val (.long xb), .second, .val (.long xc), .second, iv 2, rv l1, .unset, .unset] [(.long xb), (.ref l1)])
    obtain ⟨_, _, ⟨T26, L26, k26, n26⟩, -, X26, ⟨Lc26, hQ26, l26, y26, z26⟩, st26⟩ := Jvm.LawKit.callS X25 hx (y := (⟨"java/lang/Long", "valueOf", "(J)Ljava/lang/Long;"⟩ : MethodName)) hown (mvT hZ (hw _ (List.mem_of_getElem? (i := 80) rfl))) (mvT hZ (hw _ (List.mem_of_getElem? (i := 81) rfl))) (mvT hZ (hw _ (List.mem_of_getElem? (i := 82) rfl))) (mvT hZ (hw _ (List.mem_of_getElem? (i := 83) rfl))) (by decide) (backOf (W := 1) (own_rm_valof l Z a0 hw [] xb w_C T25.heap n0 Z25 O25 S_C hcache) hZ (hw _ (List.mem_of_getElem? (i := 83) rfl)) (hw _ (List.mem_of_getElem? (i := 82) rfl)) (by decide) (by decide)) (g := (mkF m 39 #[iv p0, .val (.long xa), .second, .val (.long xb), .second, .val (.long xc), .second, iv 2, rv l1, .unset, .unset] [(.long xb), (.ref l1)])) rfl (by rw [hml]; rfl) (argsL := [(.long xb)]) (rest := [(.ref l1)]) (lenOf own_pd15 rfl) rfl (by show 2 * 0 + _ ≤ _; exact Nat.le_of_eq rfl) (hb hby at_39) (fun _ _ => ⟨rfl, rfl, (by decide : 3 + 1 ≤ _), (by decide : 14 + 1 ≤ _)⟩)
    dsimp only [Pt.U, Pt.locs, Pt.cells, Pt.slots] at X26 l26 y26 z26 st26 hQ26
    subst l26 y26 z26
    obtain ⟨b2, rfl, N26, KC26, Eb26, Fv26⟩ := hQ26
    have M26 := Fr.app M25 N26
    refine own_st st26 ?_
    show own_Go p e below _ T26 (mkF m 42 #[iv p0, .val (.long xa), .second, .val (.long xb), .second, .val (.long xc), .second, iv 2, rv l1, .unset, .unset] [(.ref b2), (.ref l1)])
    have O26 := O25.keep KC26 all0
    have V26_d1 := Vd25.keep KC26 nin0
    have E26_l1 := E25_l1.keep KC26
    have E26_b1 := E25_b1.keep KC26
    have F26_modCount_l1 := Fm25.keep KC26 nin0
    have F26_elementData_l1 := Fe25.keep KC26 nin0
    have F26_size_l1 := Fs25.keep KC26 nin0
    have F26_value_b1 := F25_value_b1.keep KC26 nin0
    have Z26 : n0 ≤ T26.heap.size := Nat.le_trans Z25 KC26.1
    have ne_b2_l1 : b2 ≠ l1 := ne_exa Eb26 E26_l1 (by decide)
    have ne_b2_d1 : b2 ≠ d1 := by obtain ⟨_, A_, -⟩ := V26_d1; exact ne_arr Eb26 (hw _ (List.mem_of_getElem? (i := 118) rfl)) A_
    obtain ⟨cq27, kq27, q27a, q27b, q27c⟩ := isOf hZ rfl E26_l1
    obtain ⟨_, _, ⟨T27, L27, k27, n27⟩, -, X27, ⟨Lc27, hQ27, l27, y27, z27⟩, st27⟩ := X26.virtualBack hx (y := (⟨"java/util/ArrayList", "add", "(Ljava/lang/Object;)Z"⟩ : MethodName)) (z := (⟨"java/util/ArrayList", "add", "(Ljava/lang/Object;)Z"⟩ : MethodName)) hown (mvT hZ (hw _ (List.mem_of_getElem? (i := 88) rfl))) (mvT hZ (hw _ (List.mem_of_getElem? (i := 89) rfl))) (notFace_of_selects (args := #[]) (mvT hZ (hw _ (List.mem_of_getElem? (i := 91) rfl)))) (mvT hZ (hw _ (List.mem_of_getElem? (i := 91) rfl))) (mvT hZ (hw _ (List.mem_of_getElem? (i := 90) rfl))) (by decide) (backOf (W := 0) (own_rm_add1m1 l Z a0 hw [] l1 b2 d1 k_d1 ((0 : Int32) + (1 : Int32)) b1 T26.heap n0 Z26 E26_l1 F26_modCount_l1 F26_elementData_l1 F26_size_l1 g_l1 Eb26 V26_d1 Ov_d1 g_d1 ne_l1_d1) hZ (hw _ (List.mem_of_getElem? (i := 92) rfl)) (hw _ (List.mem_of_getElem? (i := 2) rfl)) (by decide) (by decide)) q27a q27c (g := (mkF m 42 #[iv p0, .val (.long xa), .second, .val (.long xb), .second, .val (.long xc), .second, iv 2, rv l1, .unset, .unset] [(.ref b2), (.ref l1)])) rfl (by rw [hml]; rfl) (Steps.refl _) (argsL := [(.ref b2)]) (rest := []) (lenOf own_pd16 rfl) rfl (by show 2 * 0 + _ ≤ _; exact Nat.le_of_eq rfl) (hb hby at_42) (fun _ _ => ⟨rfl, rfl, (by decide : 4 + 0 ≤ _), (by decide : 15 + 0 ≤ _)⟩)
    dsimp only [Pt.U, Pt.locs, Pt.cells, Pt.slots] at X27 l27 y27 z27 st27 hQ27
    subst l27 y27 z27
    obtain ⟨rfl, N27, KC27, Fm27, Fe27, Fs27, Vd27⟩ := hQ27
    have M27 := Fr.app M26 N27
    refine own_tr st27 ?_
    show own_Go p e below _ T27 (mkF m 45 #[iv p0, .val (.long xa), .second, .val (.long xb), .second, .val (.long xc), .second, iv 2, rv l1, .unset, .unset] [(.int 1)])
    have O27 := O26.keep KC27 (allS g_l1 (allS g_d1 all0))
    have E27_l1 := E26_l1.keep KC27
    have E27_b1 := E26_b1.keep KC27
    have E27_b2 := Eb26.keep KC27
    have F27_value_b1 := F26_value_b1.keep KC27 (ninS ne_b1_l1 (ninS ne_b1_d1 nin0))
    have F27_value_b2 := Fv26.keep KC27 (ninS ne_b2_l1 (ninS ne_b2_d1 nin0))
    have Z27 : n0 ≤ T27.heap.size := Nat.le_trans Z26 KC27.1
    refine own_st (fun _ k => XT.pop X27.here hx rfl (hb hby at_45) rfl rfl k) ?_
    show own_Go p e below _ T27 (mkF m 46 #[iv p0, .val (.long xa), .second, .val (.long xb), .second, .val (.long xc), .second, iv 2, rv l1, .unset, .unset] [])
    refine own_st (fun _ k => XS.iload X27.here hx rfl (hb hby at_46) rfl k) ?_
    show own_Go p e below _ T27 (mkF m 48 #[iv p0, .val (.long xa), .second, .val (.long xb), .second, .val (.long xc), .second, iv 2, rv l1, .unset, .unset] [(.int 2)])
    refine own_st (fun _ k => XT.iconstV X27.here hx rfl (3 : Int32) (hb hby at_48) (by decide) k) ?_
    show own_Go p e below _ T27 (mkF m 49 #[iv p0, .val (.long xa), .second, .val (.long xb), .second, .val (.long xc), .second, iv 2, rv l1, .unset, .unset] [(.int 3), (.int 2)])
    refine own_st (fun _ k => XS.icmpYes X27.here hx rfl (pc0 := 49) (pc' := 63) rfl (hb hby at_49) rfl (XT.ii_lt_t (by decide)) (by decide) (by decide) k) ?_
    show own_Go p e below _ T27 (mkF m 63 #[iv p0, .val (.long xa), .second, .val (.long xb), .second, .val (.long xc), .second, iv 2, rv l1, .unset, .unset] [])
    refine own_st (fun _ k => XS.aload X27.here hx rfl (hb hby at_63) rfl rfl k) ?_
    show own_Go p e below _ T27 (mkF m 65 #[iv p0, .val (.long xa), .second, .val (.long xb), .second, .val (.long xc), .second, iv 2, rv l1, .unset, .unset] [(.ref l1)])
    obtain ⟨_, _, ⟨T28, L28, k28, n28⟩, -, X28, ⟨Lc28, hQ28, l28, y28, z28⟩, st28⟩ := Jvm.LawKit.callS X27 hx (y := (⟨"com/example/limpet/limpet/RedisBackend$Acknowledged", "notAsked", "(Ljava/util/List;)Lcom/example/limpet/limpet/RedisBackend$Acknowledged;"⟩ : MethodName)) hown (mvT hZ (hw _ (List.mem_of_getElem? (i := 26) rfl))) (mvT hZ (hw _ (List.mem_of_getElem? (i := 27) rfl))) (mvT hZ (hw _ (List.mem_of_getElem? (i := 28) rfl))) (mvT hZ (hw _ (List.mem_of_getElem? (i := 29) rfl))) (by decide) (backOf (W := 0) (own_rm_nota l Z a0 hw [] l1 T27.heap n0 Z27) hZ (hw _ (List.mem_of_getElem? (i := 29) rfl)) (hw _ (List.mem_of_getElem? (i := 28) rfl)) (by decide) (by decide)) (g := (mkF m 65 #[iv p0, .val (.long xa), .second, .val (.long xb), .second, .val (.long xc), .second, iv 2, rv l1, .unset, .unset] [(.ref l1)])) rfl (by rw [hml]; rfl) (argsL := [(.ref l1)]) (rest := []) (lenOf own_pd9 rfl) rfl (by show 2 * 0 + _ ≤ _; exact Nat.le_of_eq rfl) (hb hby at_65) (fun _ _ => ⟨rfl, rfl, (by decide : 4 + 1 ≤ _), (by decide : 15 + 4 ≤ _)⟩)
    dsimp only [Pt.U, Pt.locs, Pt.cells, Pt.slots] at X28 l28 y28 z28 st28 hQ28
    subst l28 y28 z28
    obtain ⟨k1, rfl, N28, KC28, Ek28, Fr28, Fa28, Fc28, Fx28⟩ := hQ28
    have M28 := Fr.app M27 N28
    refine own_st st28 ?_
    show own_Go p e below _ T28 (mkF m 68 #[iv p0, .val (.long xa), .second, .val (.long xb), .second, .val (.long xc), .second, iv 2, rv l1, .unset, .unset] [(.ref k1)])
    have O28 := O27.keep KC28 all0
    have V28_d1 := Vd27.keep KC28 nin0
    have E28_l1 := E27_l1.keep KC28
    have E28_b1 := E27_b1.keep KC28
    have E28_b2 := E27_b2.keep KC28
    have F28_modCount_l1 := Fm27.keep KC28 nin0
    have F28_elementData_l1 := Fe27.keep KC28 nin0
    have F28_size_l1 := Fs27.keep KC28 nin0
    have F28_value_b1 := F27_value_b1.keep KC28 nin0
    have F28_value_b2 := F27_value_b2.keep KC28 nin0
    have Z28 : n0 ≤ T28.heap.size := Nat.le_trans Z27 KC28.1
    refine own_st (fun _ k => XS.astore X28.here hx rfl (hb hby at_68) rfl rfl (l' := #[iv p0, .val (.long xa), .second, .val (.long xb), .second, .val (.long xc), .second, iv 2, rv l1, rv k1, .unset]) rfl k) ?_
    show own_Go p e below _ T28 (mkF m 70 #[iv p0, .val (.long xa), .second, .val (.long xb), .second, .val (.long xc), .second, iv 2, rv l1, rv k1, .unset] [])
    refine own_st (fun _ k => XS.aload X28.here hx rfl (hb hby at_70) rfl rfl k) ?_
    show own_Go p e below _ T28 (mkF m 72 #[iv p0, .val (.long xa), .second, .val (.long xb), .second, .val (.long xc), .second, iv 2, rv l1, rv k1, .unset] [(.ref k1)])
    obtain ⟨cq29, kq29, q29a, q29b, q29c⟩ := isOf hZ rfl Ek28
    obtain ⟨_, _, ⟨T29, L29, k29, n29⟩, -, X29, ⟨Lc29, hQ29, l29, y29, z29⟩, st29⟩ := X28.virtualBack hx (y := (⟨"com/example/limpet/limpet/RedisBackend$Acknowledged", "reply", "()Ljava/util/List;"⟩ : MethodName)) (z := (⟨"com/example/limpet/limpet/RedisBackend$Acknowledged", "reply", "()Ljava/util/List;"⟩ : MethodName)) hown (mvT hZ (hw _ (List.mem_of_getElem? (i := 44) rfl))) (mvT hZ (hw _ (List.mem_of_getElem? (i := 45) rfl))) (notFace_of_selects (args := #[]) (mvT hZ (hw _ (List.mem_of_getElem? (i := 47) rfl)))) (mvT hZ (hw _ (List.mem_of_getElem? (i := 47) rfl))) (mvT hZ (hw _ (List.mem_of_getElem? (i := 46) rfl))) (by decide) (backOf (W := 0) (own_rm_grep l Z a0 hw [] k1 l1 T28.heap n0 Z28 Fr28) hZ (hw _ (List.mem_of_getElem? (i := 48) rfl)) (hw _ (List.mem_of_getElem? (i := 28) rfl)) (by decide) (by decide)) q29a q29c (g := (mkF m 72 #[iv p0, .val (.long xa), .second, .val (.long xb), .second, .val (.long xc), .second, iv 2, rv l1, rv k1, .unset] [(.ref k1)])) rfl (by rw [hml]; rfl) (Steps.refl _) (argsL := []) (rest := []) (lenOf own_pd10 rfl) rfl (by show 2 * 0 + _ ≤ _; exact Nat.le_of_eq rfl) (hb hby at_72) (fun _ _ => ⟨rfl, rfl, (by decide : 5 + 0 ≤ _), (by decide : 19 + 0 ≤ _)⟩)
    dsimp only [Pt.U, Pt.locs, Pt.cells, Pt.slots] at X29 l29 y29 z29 st29 hQ29
    subst l29 y29 z29
    obtain ⟨rfl, N29, eh29⟩ := hQ29
    have M29 := Fr.app M28 N29
    refine own_tr st29 ?_
    show own_Go p e below _ T29 (mkF m 75 #[iv p0, .val (.long xa), .second, .val (.long xb), .second, .val (.long xc), .second, iv 2, rv l1, rv k1, .unset] [(.ref l1)])
    refine own_st (fun _ k => XS.astore X29.here hx rfl (hb hby at_75) rfl rfl (l' := #[iv p0, .val (.long xa), .second, .val (.long xb), .second, .val (.long xc), .second, iv 2, rv l1, rv k1, rv l1]) rfl k) ?_
    show own_Go p e below _ T29 (mkF m 77 #[iv p0, .val (.long xa), .second, .val (.long xb), .second, .val (.long xc), .second, iv 2, rv l1, rv k1, rv l1] [])
    refine own_st (fun _ k => XS.aload X29.here hx rfl (hb hby at_77) rfl rfl k) ?_
    show own_Go p e below _ T29 (mkF m 79 #[iv p0, .val (.long xa), .second, .val (.long xb), .second, .val (.long xc), .second, iv 2, rv l1, rv k1, rv l1] [(.ref l1)])
    refine own_st (fun _ k => XS.aload X29.here hx rfl (hb hby at_79) rfl rfl k) ?_
    show own_Go p e below _ T29 (mkF m 81 #[iv p0, .val (.long xa), .second, .val (.long xb), .second, .val (.long xc), .second, iv 2, rv l1, rv k1, rv l1] [(.ref l1), (.ref l1)])
    refine own_st (fun _ k => XT.acmpNo X29.here hx rfl (hb hby at_81) rfl rfl rfl (XT.aa_ne_f rfl) k) ?_
    show own_Go p e below _ T29 (mkF m 84 #[iv p0, .val (.long xa), .second, .val (.long xb), .second, .val (.long xc), .second, iv 2, rv l1, rv k1, rv l1] [])
    refine own_st (fun _ k => XS.aload X29.here hx rfl (hb hby at_84) rfl rfl k) ?_
    show own_Go p e below _ T29 (mkF m 86 #[iv p0, .val (.long xa), .second, .val (.long xb), .second, .val (.long xc), .second, iv 2, rv l1, rv k1, rv l1] [(.ref l1)])
    obtain ⟨cq30, kq30, q30a, q30b, q30c⟩ := isOf hZ eh29 E28_l1
    obtain ⟨_, _, ⟨T30, L30, k30, n30⟩, -, X30, ⟨Lc30, hQ30, l30, y30, z30⟩, st30⟩ := X29.interfaceBack hx (xi := (⟨"java/util/List", "size", "()I"⟩ : MethodName)) (y := (⟨"java/util/ArrayList", "size", "()I"⟩ : MethodName)) hown (mvT hZ (hw _ (List.mem_of_getElem? (i := 49) rfl))) (mvT hZ (hw _ (List.mem_of_getElem? (i := 50) rfl))) (mvT hZ (hw _ (List.mem_of_getElem? (i := 51) rfl))) (mvT hZ (hw _ (List.mem_of_getElem? (i := 52) rfl))) (mvT hZ (hw _ (List.mem_of_getElem? (i := 53) rfl))) (mvT hZ (hw _ (List.mem_of_getElem? (i := 54) rfl))) (mvT hZ (hw _ (List.mem_of_getElem? (i := 55) rfl))) (mvT hZ (hw _ (List.mem_of_getElem? (i := 56) rfl))) (by decide) (backOf (W := 0) (own_rm_size l Z a0 hw [] l1 (2 : Int32) T28.heap n0 Z28 F28_size_l1) hZ (hw _ (List.mem_of_getElem? (i := 57) rfl)) (hw _ (List.mem_of_getElem? (i := 2) rfl)) (by decide) (by decide)) q30a q30b q30c (g := (mkF m 86 #[iv p0, .val (.long xa), .second, .val (.long xb), .second, .val (.long xc), .second, iv 2, rv l1, rv k1, rv l1] [(.ref l1)])) rfl (by rw [hml]; rfl) (Steps.refl _) (argsL := []) (rest := []) (lenOf own_pd11 rfl) rfl (by show 2 * 0 + _ ≤ _; exact Nat.le_of_eq rfl) (hb hby at_86) (fun _ _ => ⟨rfl, eh29, (by decide : 5 + 0 ≤ _), (by decide : 19 + 0 ≤ _)⟩)
    dsimp only [Pt.U, Pt.locs, Pt.cells, Pt.slots] at X30 l30 y30 z30 st30 hQ30
    subst l30 y30 z30
    obtain ⟨rfl, N30, eh30⟩ := hQ30
    have M30 := Fr.app M29 N30
    refine own_tr st30 ?_
    show own_Go p e below _ T30 (mkF m 91 #[iv p0, .val (.long xa), .second, .val (.long xb), .second, .val (.long xc), .second, iv 2, rv l1, rv k1, rv l1] [(.int 2)])
    refine own_st (fun _ k => XS.iload X30.here hx rfl (hb hby at_91) rfl k) ?_
    show own_Go p e below _ T30 (mkF m 93 #[iv p0, .val (.long xa), .second, .val (.long xb), .second, .val (.long xc), .second, iv 2, rv l1, rv k1, rv l1] [(.int 2), (.int 2)])
    refine own_st (fun _ k => XS.icmpYes X30.here hx rfl (pc0 := 93) (pc' := 98) rfl (hb hby at_93) rfl (XT.ii_eq_t rfl) (by decide) (by decide) k) ?_
    show own_Go p e below _ T30 (mkF m 98 #[iv p0, .val (.long xa), .second, .val (.long xb), .second, .val (.long xc), .second, iv 2, rv l1, rv k1, rv l1] [])
    refine own_st (fun _ k => XS.iload X30.here hx rfl (hb hby at_98) rfl k) ?_
    show own_Go p e below _ T30 (mkF m 100 #[iv p0, .val (.long xa), .second, .val (.long xb), .second, .val (.long xc), .second, iv 2, rv l1, rv k1, rv l1] [(.int 2)])
    refine own_st (fun _ k => XT.iconstV X30.here hx rfl (1 : Int32) (hb hby at_100) (by decide) k) ?_
    show own_Go p e below _ T30 (mkF m 101 #[iv p0, .val (.long xa), .second, .val (.long xb), .second, .val (.long xc), .second, iv 2, rv l1, rv k1, rv l1] [(.int 1), (.int 2)])
    refine own_st (fun _ k => XS.icmpNo X30.here hx rfl (hb hby at_101) rfl (XT.ii_lt_f (by decide)) k) ?_
    show own_Go p e below _ T30 (mkF m 104 #[iv p0, .val (.long xa), .second, .val (.long xb), .second, .val (.long xc), .second, iv 2, rv l1, rv k1, rv l1] [])
    refine own_st (fun _ k => XS.aload X30.here hx rfl (hb hby at_104) rfl rfl k) ?_
    show own_Go p e below _ T30 (mkF m 106 #[iv p0, .val (.long xa), .second, .val (.long xb), .second, .val (.long xc), .second, iv 2, rv l1, rv k1, rv l1] [(.ref l1)])
    refine own_st (fun _ k => XT.iconstV X30.here hx rfl (0 : Int32) (hb hby at_106) (by decide) k) ?_
    show own_Go p e below _ T30 (mkF m 107 #[iv p0, .val (.long xa), .second, .val (.long xb), .second, .val (.long xc), .second, iv 2, rv l1, rv k1, rv l1] [(.int 0), (.ref l1)])
    obtain ⟨cq31, kq31, q31a, q31b, q31c⟩ := isOf hZ eh30 E28_l1
    obtain ⟨_, _, ⟨T31, L31, k31, n31⟩, -, X31, ⟨Lc31, hQ31, l31, y31, z31⟩, st31⟩ := X30.interfaceBack hx (xi := (⟨"java/util/List", "get", "(I)Ljava/lang/Object;"⟩ : MethodName)) (y := (⟨"java/util/ArrayList", "get", "(I)Ljava/lang/Object;"⟩ : MethodName)) hown (mvT hZ (hw _ (List.mem_of_getElem? (i := 132) rfl))) (mvT hZ (hw _ (List.mem_of_getElem? (i := 133) rfl))) (mvT hZ (hw _ (List.mem_of_getElem? (i := 134) rfl))) (mvT hZ (hw _ (List.mem_of_getElem? (i := 135) rfl))) (mvT hZ (hw _ (List.mem_of_getElem? (i := 136) rfl))) (mvT hZ (hw _ (List.mem_of_getElem? (i := 137) rfl))) (mvT hZ (hw _ (List.mem_of_getElem? (i := 138) rfl))) (mvT hZ (hw _ (List.mem_of_getElem? (i := 56) rfl))) (by decide) (backOf (W := 0) (own_rm_get l Z a0 hw [] l1 d1 k_d1 (0 : Int32) [(.ref b1), (.ref b2), .null, .null, .null, .null, .null, .null, .null, .null] b1 (2 : Int32) T28.heap n0 Z28 F28_elementData_l1 V28_d1 (by decide) (by decide) rfl F28_size_l1 (by decide) E28_l1) hZ (hw _ (List.mem_of_getElem? (i := 139) rfl)) (hw _ (List.mem_of_getElem? (i := 2) rfl)) (by decide) (by decide)) q31a q31b q31c (g := (mkF m 107 #[iv p0, .val (.long xa), .second, .val (.long xb), .second, .val (.long xc), .second, iv 2, rv l1, rv k1, rv l1] [(.int 0), (.ref l1)])) rfl (by rw [hml]; rfl) (Steps.refl _) (argsL := [(.int (0 : Int32))]) (rest := []) (lenOf own_pd7 rfl) rfl (by show 2 * 0 + _ ≤ _; exact Nat.le_of_eq rfl) (hb hby at_107) (fun _ _ => ⟨rfl, eh30, (by decide : 5 + 0 ≤ _), (by decide : 19 + 0 ≤ _)⟩)
    dsimp only [Pt.U, Pt.locs, Pt.cells, Pt.slots] at X31 l31 y31 z31 st31 hQ31
    subst l31 y31 z31
    obtain ⟨rfl, N31, eh31⟩ := hQ31
    have M31 := Fr.app M30 N31
    refine own_tr st31 ?_
    show own_Go p e below _ T31 (mkF m 112 #[iv p0, .val (.long xa), .second, .val (.long xb), .second, .val (.long xc), .second, iv 2, rv l1, rv k1, rv l1] [(.ref b1)])
    obtain ⟨T32, X32, e32, st32⟩ := castY X31 hx hZ hown (hw _ (List.mem_of_getElem? (i := 153) rfl)) eh31 (Ins.self E28_b1) (g := (mkF m 112 #[iv p0, .val (.long xa), .second, .val (.long xb), .second, .val (.long xc), .second, iv 2, rv l1, rv k1, rv l1] [(.ref b1)])) rfl rfl (hb hby at_112)
    refine own_st st32 ?_
    show own_Go p e below _ T32 (mkF m 115 #[iv p0, .val (.long xa), .second, .val (.long xb), .second, .val (.long xc), .second, iv 2, rv l1, rv k1, rv l1] [(.ref b1)])
    obtain ⟨cq33, kq33, q33a, q33b, q33c⟩ := isOf hZ e32 E28_b1
    obtain ⟨_, _, ⟨T33, L33, k33, n33⟩, -, X33, ⟨Lc33, hQ33, l33, y33, z33⟩, st33⟩ := X32.virtualBack hx (y := (⟨"java/lang/Long", "longValue", "()J"⟩ : MethodName)) (z := (⟨"java/lang/Long", "longValue", "()J"⟩ : MethodName)) hown (mvT hZ (hw _ (List.mem_of_getElem? (i := 154) rfl))) (mvT hZ (hw _ (List.mem_of_getElem? (i := 155) rfl))) (notFace_of_selects (args := #[]) (mvT hZ (hw _ (List.mem_of_getElem? (i := 157) rfl)))) (mvT hZ (hw _ (List.mem_of_getElem? (i := 157) rfl))) (mvT hZ (hw _ (List.mem_of_getElem? (i := 156) rfl))) (by decide) (backOf (W := 0) (own_rm_lval l Z a0 hw [] b1 xa T28.heap n0 Z28 F28_value_b1) hZ (hw _ (List.mem_of_getElem? (i := 158) rfl)) (hw _ (List.mem_of_getElem? (i := 82) rfl)) (by decide) (by decide)) q33a q33c (g := (mkF m 115 #[iv p0, .val (.long xa), .second, .val (.long xb), .second, .val (.long xc), .second, iv 2, rv l1, rv k1, rv l1] [(.ref b1)])) rfl (by rw [hml]; rfl) (Steps.refl _) (argsL := []) (rest := []) (lenOf own_pd12 rfl) rfl (by show 2 * 0 + _ ≤ _; exact Nat.le_of_eq rfl) (hb hby at_115) (fun _ _ => ⟨rfl, e32, (by decide : 5 + 0 ≤ _), (by decide : 19 + 0 ≤ _)⟩)
    dsimp only [Pt.U, Pt.locs, Pt.cells, Pt.slots] at X33 l33 y33 z33 st33 hQ33
    subst l33 y33 z33
    obtain ⟨rfl, N33, eh33⟩ := hQ33
    have M33 := Fr.app M31 N33
    refine own_tr st33 ?_
    show own_Go p e below _ T33 (mkF m 118 #[iv p0, .val (.long xa), .second, .val (.long xb), .second, .val (.long xc), .second, iv 2, rv l1, rv k1, rv l1] [(.long xa)])
    refine own_st (fun _ k => XT.lloadN X33.here hx rfl (hb hby at_118) rfl k) ?_
    show own_Go p e below _ T33 (mkF m 119 #[iv p0, .val (.long xa), .second, .val (.long xb), .second, .val (.long xc), .second, iv 2, rv l1, rv k1, rv l1] [(.long xa), (.long xa)])
    refine own_st (fun _ k => XT.lcmp X33.here hx rfl (hb hby at_119) rfl k) ?_
    show own_Go p e below _ T33 (mkF m 120 #[iv p0, .val (.long xa), .second, .val (.long xb), .second, .val (.long xc), .second, iv 2, rv l1, rv k1, rv l1] [(.int (XT.cmpL xa xa))])
    refine own_st (fun _ k => XS.ifYes X33.here hx rfl (pc0 := 120) (pc' := 125) rfl (hb hby at_120) rfl (XT.ll_eq_t rfl) (by decide) (by decide) k) ?_
    show own_Go p e below _ T33 (mkF m 125 #[iv p0, .val (.long xa), .second, .val (.long xb), .second, .val (.long xc), .second, iv 2, rv l1, rv k1, rv l1] [])
    refine own_st (fun _ k => XS.iload X33.here hx rfl (hb hby at_125) rfl k) ?_
    show own_Go p e below _ T33 (mkF m 127 #[iv p0, .val (.long xa), .second, .val (.long xb), .second, .val (.long xc), .second, iv 2, rv l1, rv k1, rv l1] [(.int 2)])
    refine own_st (fun _ k => XT.iconstV X33.here hx rfl (2 : Int32) (hb hby at_127) (by decide) k) ?_
    show own_Go p e below _ T33 (mkF m 128 #[iv p0, .val (.long xa), .second, .val (.long xb), .second, .val (.long xc), .second, iv 2, rv l1, rv k1, rv l1] [(.int 2), (.int 2)])
    refine own_st (fun _ k => XS.icmpNo X33.here hx rfl (hb hby at_128) rfl (XT.ii_lt_f (by decide)) k) ?_
    show own_Go p e below _ T33 (mkF m 131 #[iv p0, .val (.long xa), .second, .val (.long xb), .second, .val (.long xc), .second, iv 2, rv l1, rv k1, rv l1] [])
    refine own_st (fun _ k => XS.aload X33.here hx rfl (hb hby at_131) rfl rfl k) ?_
    show own_Go p e below _ T33 (mkF m 133 #[iv p0, .val (.long xa), .second, .val (.long xb), .second, .val (.long xc), .second, iv 2, rv l1, rv k1, rv l1] [(.ref l1)])
    refine own_st (fun _ k => XT.iconstV X33.here hx rfl (1 : Int32) (hb hby at_133) (by decide) k) ?_
    show own_Go p e below _ T33 (mkF m 134 #[iv p0, .val (.long xa), .second, .val (.long xb), .second, .val (.long xc), .second, iv 2, rv l1, rv k1, rv l1] [(.int 1), (.ref l1)])
    obtain ⟨cq34, kq34, q34a, q34b, q34c⟩ := isOf hZ eh33 E28_l1
    obtain ⟨_, _, ⟨T34, L34, k34, n34⟩, -, X34, ⟨Lc34, hQ34, l34, y34, z34⟩, st34⟩ := X33.interfaceBack hx (xi := (⟨"java/util/List", "get", "(I)Ljava/lang/Object;"⟩ : MethodName)) (y := (⟨"java/util/ArrayList", "get", "(I)Ljava/lang/Object;"⟩ : MethodName)) hown (mvT hZ (hw _ (List.mem_of_getElem? (i := 132) rfl))) (mvT hZ (hw _ (List.mem_of_getElem? (i := 133) rfl))) (mvT hZ (hw _ (List.mem_of_getElem? (i := 134) rfl))) (mvT hZ (hw _ (List.mem_of_getElem? (i := 135) rfl))) (mvT hZ (hw _ (List.mem_of_getElem? (i := 136) rfl))) (mvT hZ (hw _ (List.mem_of_getElem? (i := 137) rfl))) (mvT hZ (hw _ (List.mem_of_getElem? (i := 138) rfl))) (mvT hZ (hw _ (List.mem_of_getElem? (i := 56) rfl))) (by decide) (backOf (W := 0) (own_rm_get l Z a0 hw [] l1 d1 k_d1 (1 : Int32) [(.ref b1), (.ref b2), .null, .null, .null, .null, .null, .null, .null, .null] b2 (2 : Int32) T28.heap n0 Z28 F28_elementData_l1 V28_d1 (by decide) (by decide) rfl F28_size_l1 (by decide) E28_l1) hZ (hw _ (List.mem_of_getElem? (i := 139) rfl)) (hw _ (List.mem_of_getElem? (i := 2) rfl)) (by decide) (by decide)) q34a q34b q34c (g := (mkF m 134 #[iv p0, .val (.long xa), .second, .val (.long xb), .second, .val (.long xc), .second, iv 2, rv l1, rv k1, rv l1] [(.int 1), (.ref l1)])) rfl (by rw [hml]; rfl) (Steps.refl _) (argsL := [(.int (1 : Int32))]) (rest := []) (lenOf own_pd7 rfl) rfl (by show 2 * 0 + _ ≤ _; exact Nat.le_of_eq rfl) (hb hby at_134) (fun _ _ => ⟨rfl, eh33, (by decide : 5 + 0 ≤ _), (by decide : 19 + 0 ≤ _)⟩)
    dsimp only [Pt.U, Pt.locs, Pt.cells, Pt.slots] at X34 l34 y34 z34 st34 hQ34
    subst l34 y34 z34
    obtain ⟨rfl, N34, eh34⟩ := hQ34
    have M34 := Fr.app M33 N34
    refine own_tr st34 ?_
    show own_Go p e below _ T34 (mkF m 139 #[iv p0, .val (.long xa), .second, .val (.long xb), .second, .val (.long xc), .second, iv 2, rv l1, rv k1, rv l1] [(.ref b2)])
    obtain ⟨T35, X35, e35, st35⟩ := castY X34 hx hZ hown (hw _ (List.mem_of_getElem? (i := 153) rfl)) eh34 (Ins.self E28_b2) (g := (mkF m 139 #[iv p0, .val (.long xa), .second, .val (.long xb), .second, .val (.long xc), .second, iv 2, rv l1, rv k1, rv l1] [(.ref b2)])) rfl rfl (hb hby at_139)
    refine own_st st35 ?_
    show own_Go p e below _ T35 (mkF m 142 #[iv p0, .val (.long xa), .second, .val (.long xb), .second, .val (.long xc), .second, iv 2, rv l1, rv k1, rv l1] [(.ref b2)])
    obtain ⟨cq36, kq36, q36a, q36b, q36c⟩ := isOf hZ e35 E28_b2
    obtain ⟨_, _, ⟨T36, L36, k36, n36⟩, -, X36, ⟨Lc36, hQ36, l36, y36, z36⟩, st36⟩ := X35.virtualBack hx (y := (⟨"java/lang/Long", "longValue", "()J"⟩ : MethodName)) (z := (⟨"java/lang/Long", "longValue", "()J"⟩ : MethodName)) hown (mvT hZ (hw _ (List.mem_of_getElem? (i := 154) rfl))) (mvT hZ (hw _ (List.mem_of_getElem? (i := 155) rfl))) (notFace_of_selects (args := #[]) (mvT hZ (hw _ (List.mem_of_getElem? (i := 157) rfl)))) (mvT hZ (hw _ (List.mem_of_getElem? (i := 157) rfl))) (mvT hZ (hw _ (List.mem_of_getElem? (i := 156) rfl))) (by decide) (backOf (W := 0) (own_rm_lval l Z a0 hw [] b2 xb T28.heap n0 Z28 F28_value_b2) hZ (hw _ (List.mem_of_getElem? (i := 158) rfl)) (hw _ (List.mem_of_getElem? (i := 82) rfl)) (by decide) (by decide)) q36a q36c (g := (mkF m 142 #[iv p0, .val (.long xa), .second, .val (.long xb), .second, .val (.long xc), .second, iv 2, rv l1, rv k1, rv l1] [(.ref b2)])) rfl (by rw [hml]; rfl) (Steps.refl _) (argsL := []) (rest := []) (lenOf own_pd12 rfl) rfl (by show 2 * 0 + _ ≤ _; exact Nat.le_of_eq rfl) (hb hby at_142) (fun _ _ => ⟨rfl, e35, (by decide : 5 + 0 ≤ _), (by decide : 19 + 0 ≤ _)⟩)
    dsimp only [Pt.U, Pt.locs, Pt.cells, Pt.slots] at X36 l36 y36 z36 st36 hQ36
    subst l36 y36 z36
    obtain ⟨rfl, N36, eh36⟩ := hQ36
    have M36 := Fr.app M34 N36
    refine own_tr st36 ?_
    show own_Go p e below _ T36 (mkF m 145 #[iv p0, .val (.long xa), .second, .val (.long xb), .second, .val (.long xc), .second, iv 2, rv l1, rv k1, rv l1] [(.long xb)])
    refine own_st (fun _ k => XT.lloadN X36.here hx rfl (hb hby at_145) rfl k) ?_
    show own_Go p e below _ T36 (mkF m 146 #[iv p0, .val (.long xa), .second, .val (.long xb), .second, .val (.long xc), .second, iv 2, rv l1, rv k1, rv l1] [(.long xb), (.long xb)])
    refine own_st (fun _ k => XT.lcmp X36.here hx rfl (hb hby at_146) rfl k) ?_
    show own_Go p e below _ T36 (mkF m 147 #[iv p0, .val (.long xa), .second, .val (.long xb), .second, .val (.long xc), .second, iv 2, rv l1, rv k1, rv l1] [(.int (XT.cmpL xb xb))])
    refine own_st (fun _ k => XS.ifYes X36.here hx rfl (pc0 := 147) (pc' := 152) rfl (hb hby at_147) rfl (XT.ll_eq_t rfl) (by decide) (by decide) k) ?_
    show own_Go p e below _ T36 (mkF m 152 #[iv p0, .val (.long xa), .second, .val (.long xb), .second, .val (.long xc), .second, iv 2, rv l1, rv k1, rv l1] [])
    refine own_st (fun _ k => XS.iload X36.here hx rfl (hb hby at_152) rfl k) ?_
    show own_Go p e below _ T36 (mkF m 154 #[iv p0, .val (.long xa), .second, .val (.long xb), .second, .val (.long xc), .second, iv 2, rv l1, rv k1, rv l1] [(.int 2)])
    refine own_st (fun _ k => XT.iconstV X36.here hx rfl (3 : Int32) (hb hby at_154) (by decide) k) ?_
    show own_Go p e below _ T36 (mkF m 155 #[iv p0, .val (.long xa), .second, .val (.long xb), .second, .val (.long xc), .second, iv 2, rv l1, rv k1, rv l1] [(.int 3), (.int 2)])
    refine own_st (fun _ k => XS.icmpYes X36.here hx rfl (pc0 := 155) (pc' := 180) rfl (hb hby at_155) rfl (XT.ii_lt_t (by decide)) (by decide) (by decide) k) ?_
    show own_Go p e below _ T36 (mkF m 180 #[iv p0, .val (.long xa), .second, .val (.long xb), .second, .val (.long xc), .second, iv 2, rv l1, rv k1, rv l1] [])
    refine own_st (fun _ k => XS.aload X36.here hx rfl (hb hby at_180) rfl rfl k) ?_
    show own_Go p e below _ T36 (mkF m 182 #[iv p0, .val (.long xa), .second, .val (.long xb), .second, .val (.long xc), .second, iv 2, rv l1, rv k1, rv l1] [(.ref k1)])
    obtain ⟨cq37, kq37, q37a, q37b, q37c⟩ := isOf hZ eh36 Ek28
    obtain ⟨_, _, ⟨T37, L37, k37, n37⟩, -, X37, ⟨Lc37, hQ37, l37, y37, z37⟩, st37⟩ := X36.virtualBack hx (y := (⟨"com/example/limpet/limpet/RedisBackend$Acknowledged", "asked", "()I"⟩ : MethodName)) (z := (⟨"com/example/limpet/limpet/RedisBackend$Acknowledged", "asked", "()I"⟩ : MethodName)) hown (mvT hZ (hw _ (List.mem_of_getElem? (i := 60) rfl))) (mvT hZ (hw _ (List.mem_of_getElem? (i := 61) rfl))) (notFace_of_selects (args := #[]) (mvT hZ (hw _ (List.mem_of_getElem? (i := 63) rfl)))) (mvT hZ (hw _ (List.mem_of_getElem? (i := 63) rfl))) (mvT hZ (hw _ (List.mem_of_getElem? (i := 62) rfl))) (by decide) (backOf (W := 0) (own_rm_gask l Z a0 hw [] k1 T28.heap n0 Z28 Fa28) hZ (hw _ (List.mem_of_getElem? (i := 64) rfl)) (hw _ (List.mem_of_getElem? (i := 28) rfl)) (by decide) (by decide)) q37a q37c (g := (mkF m 182 #[iv p0, .val (.long xa), .second, .val (.long xb), .second, .val (.long xc), .second, iv 2, rv l1, rv k1, rv l1] [(.ref k1)])) rfl (by rw [hml]; rfl) (Steps.refl _) (argsL := []) (rest := []) (lenOf own_pd11 rfl) rfl (by show 2 * 0 + _ ≤ _; exact Nat.le_of_eq rfl) (hb hby at_182) (fun _ _ => ⟨rfl, eh36, (by decide : 5 + 0 ≤ _), (by decide : 19 + 0 ≤ _)⟩)
    dsimp only [Pt.U, Pt.locs, Pt.cells, Pt.slots] at X37 l37 y37 z37 st37 hQ37
    subst l37 y37 z37
    obtain ⟨rfl, N37, eh37⟩ := hQ37
    have M37 := Fr.app M36 N37
    refine own_tr st37 ?_
    show own_Go p e below _ T37 (mkF m 185 #[iv p0, .val (.long xa), .second, .val (.long xb), .second, .val (.long xc), .second, iv 2, rv l1, rv k1, rv l1] [(.int 0)])
    refine own_st (fun _ k => XS.ifNo X37.here hx rfl (hb hby at_185) rfl (XT.i0_ne_f rfl) k) ?_
    show own_Go p e below _ T37 (mkF m 188 #[iv p0, .val (.long xa), .second, .val (.long xb), .second, .val (.long xc), .second, iv 2, rv l1, rv k1, rv l1] [])
    refine own_st (fun _ k => XS.aload X37.here hx rfl (hb hby at_188) rfl rfl k) ?_
    show own_Go p e below _ T37 (mkF m 190 #[iv p0, .val (.long xa), .second, .val (.long xb), .second, .val (.long xc), .second, iv 2, rv l1, rv k1, rv l1] [(.ref k1)])
    obtain ⟨cq38, kq38, q38a, q38b, q38c⟩ := isOf hZ eh37 Ek28
    obtain ⟨_, _, ⟨T38, L38, k38, n38⟩, -, X38, ⟨Lc38, hQ38, l38, y38, z38⟩, st38⟩ := X37.virtualBack hx (y := (⟨"com/example/limpet/limpet/RedisBackend$Acknowledged", "acknowledged", "()J"⟩ : MethodName)) (z := (⟨"com/example/limpet/limpet/RedisBackend$Acknowledged", "acknowledged", "()J"⟩ : MethodName)) hown (mvT hZ (hw _ (List.mem_of_getElem? (i := 65) rfl))) (mvT hZ (hw _ (List.mem_of_getElem? (i := 66) rfl))) (notFace_of_selects (args := #[]) (mvT hZ (hw _ (List.mem_of_getElem? (i := 68) rfl)))) (mvT hZ (hw _ (List.mem_of_getElem? (i := 68) rfl))) (mvT hZ (hw _ (List.mem_of_getElem? (i := 67) rfl))) (by decide) (backOf (W := 0) (own_rm_gack l Z a0 hw [] k1 T28.heap n0 Z28 Fc28) hZ (hw _ (List.mem_of_getElem? (i := 69) rfl)) (hw _ (List.mem_of_getElem? (i := 28) rfl)) (by decide) (by decide)) q38a q38c (g := (mkF m 190 #[iv p0, .val (.long xa), .second, .val (.long xb), .second, .val (.long xc), .second, iv 2, rv l1, rv k1, rv l1] [(.ref k1)])) rfl (by rw [hml]; rfl) (Steps.refl _) (argsL := []) (rest := []) (lenOf own_pd12 rfl) rfl (by show 2 * 0 + _ ≤ _; exact Nat.le_of_eq rfl) (hb hby at_190) (fun _ _ => ⟨rfl, eh37, (by decide : 5 + 0 ≤ _), (by decide : 19 + 0 ≤ _)⟩)
    dsimp only [Pt.U, Pt.locs, Pt.cells, Pt.slots] at X38 l38 y38 z38 st38 hQ38
    subst l38 y38 z38
    obtain ⟨rfl, N38, eh38⟩ := hQ38
    have M38 := Fr.app M37 N38
    refine own_tr st38 ?_
    show own_Go p e below _ T38 (mkF m 193 #[iv p0, .val (.long xa), .second, .val (.long xb), .second, .val (.long xc), .second, iv 2, rv l1, rv k1, rv l1] [(.long 0)])
    refine own_st (fun _ k => XT.lconstV X38.here hx rfl (0 : Int64) (hb hby at_193) (by decide) k) ?_
    show own_Go p e below _ T38 (mkF m 194 #[iv p0, .val (.long xa), .second, .val (.long xb), .second, .val (.long xc), .second, iv 2, rv l1, rv k1, rv l1] [(.long 0), (.long 0)])
    refine own_st (fun _ k => XT.lcmp X38.here hx rfl (hb hby at_194) rfl k) ?_
    show own_Go p e below _ T38 (mkF m 195 #[iv p0, .val (.long xa), .second, .val (.long xb), .second, .val (.long xc), .second, iv 2, rv l1, rv k1, rv l1] [(.int (XT.cmpL 0 0))])
    refine own_st (fun _ k => XS.ifNo X38.here hx rfl (hb hby at_195) rfl (XT.ll_ne_f rfl) k) ?_
    show own_Go p e below _ T38 (mkF m 198 #[iv p0, .val (.long xa), .second, .val (.long xb), .second, .val (.long xc), .second, iv 2, rv l1, rv k1, rv l1] [])
    refine own_st (fun _ k => XS.aload X38.here hx rfl (hb hby at_198) rfl rfl k) ?_
    show own_Go p e below _ T38 (mkF m 200 #[iv p0, .val (.long xa), .second, .val (.long xb), .second, .val (.long xc), .second, iv 2, rv l1, rv k1, rv l1] [(.ref k1)])
    obtain ⟨cq39, kq39, q39a, q39b, q39c⟩ := isOf hZ eh38 Ek28
    obtain ⟨_, _, ⟨T39, L39, k39, n39⟩, -, X39, ⟨Lc39, hQ39, l39, y39, z39⟩, st39⟩ := X38.virtualBack hx (y := (⟨"com/example/limpet/limpet/RedisBackend$Acknowledged", "failure", "()Ljava/lang/RuntimeException;"⟩ : MethodName)) (z := (⟨"com/example/limpet/limpet/RedisBackend$Acknowledged", "failure", "()Ljava/lang/RuntimeException;"⟩ : MethodName)) hown (mvT hZ (hw _ (List.mem_of_getElem? (i := 70) rfl))) (mvT hZ (hw _ (List.mem_of_getElem? (i := 71) rfl))) (notFace_of_selects (args := #[]) (mvT hZ (hw _ (List.mem_of_getElem? (i := 73) rfl)))) (mvT hZ (hw _ (List.mem_of_getElem? (i := 73) rfl))) (mvT hZ (hw _ (List.mem_of_getElem? (i := 72) rfl))) (by decide) (backOf (W := 0) (own_rm_gfail l Z a0 hw [] k1 T28.heap n0 Z28 Fx28) hZ (hw _ (List.mem_of_getElem? (i := 74) rfl)) (hw _ (List.mem_of_getElem? (i := 28) rfl)) (by decide) (by decide)) q39a q39c (g := (mkF m 200 #[iv p0, .val (.long xa), .second, .val (.long xb), .second, .val (.long xc), .second, iv 2, rv l1, rv k1, rv l1] [(.ref k1)])) rfl (by rw [hml]; rfl) (Steps.refl _) (argsL := []) (rest := []) (lenOf own_pd13 rfl) rfl (by show 2 * 0 + _ ≤ _; exact Nat.le_of_eq rfl) (hb hby at_200) (fun _ _ => ⟨rfl, eh38, (by decide : 5 + 0 ≤ _), (by decide : 19 + 0 ≤ _)⟩)
    dsimp only [Pt.U, Pt.locs, Pt.cells, Pt.slots] at X39 l39 y39 z39 st39 hQ39
    subst l39 y39 z39
    obtain ⟨rfl, N39, eh39⟩ := hQ39
    have M39 := Fr.app M38 N39
    refine own_tr st39 ?_
    show own_Go p e below _ T39 (mkF m 203 #[iv p0, .val (.long xa), .second, .val (.long xb), .second, .val (.long xc), .second, iv 2, rv l1, rv k1, rv l1] [.null])
    refine own_st (fun _ k => XT.ifnonnullNo X39.here hx rfl (hb hby at_203) rfl k) ?_
    show own_Go p e below _ T39 (mkF m 206 #[iv p0, .val (.long xa), .second, .val (.long xb), .second, .val (.long xc), .second, iv 2, rv l1, rv k1, rv l1] [])
    refine own_st (fun _ k => XS.aload X39.here hx rfl (hb hby at_206) rfl rfl k) ?_
    show own_Go p e below _ T39 (mkF m 208 #[iv p0, .val (.long xa), .second, .val (.long xb), .second, .val (.long xc), .second, iv 2, rv l1, rv k1, rv l1] [(.ref k1)])
    obtain ⟨cq40, kq40, q40a, q40b, q40c⟩ := isOf hZ eh39 Ek28
    obtain ⟨_, _, ⟨T40, L40, k40, n40⟩, -, X40, ⟨Lc40, hQ40, l40, y40, z40⟩, st40⟩ := X39.virtualBack hx (y := (⟨"com/example/limpet/limpet/RedisBackend$Acknowledged", "counts", "()Z"⟩ : MethodName)) (z := (⟨"com/example/limpet/limpet/RedisBackend$Acknowledged", "counts", "()Z"⟩ : MethodName)) hown (mvT hZ (hw _ (List.mem_of_getElem? (i := 75) rfl))) (mvT hZ (hw _ (List.mem_of_getElem? (i := 76) rfl))) (notFace_of_selects (args := #[]) (mvT hZ (hw _ (List.mem_of_getElem? (i := 78) rfl)))) (mvT hZ (hw _ (List.mem_of_getElem? (i := 78) rfl))) (mvT hZ (hw _ (List.mem_of_getElem? (i := 77) rfl))) (by decide) (backOf (W := 0) (own_rm_gcnt l Z a0 hw [] k1 T28.heap n0 Z28 Fa28) hZ (hw _ (List.mem_of_getElem? (i := 79) rfl)) (hw _ (List.mem_of_getElem? (i := 28) rfl)) (by decide) (by decide)) q40a q40c (g := (mkF m 208 #[iv p0, .val (.long xa), .second, .val (.long xb), .second, .val (.long xc), .second, iv 2, rv l1, rv k1, rv l1] [(.ref k1)])) rfl (by rw [hml]; rfl) (Steps.refl _) (argsL := []) (rest := []) (lenOf own_pd14 rfl) rfl (by show 2 * 0 + _ ≤ _; exact Nat.le_of_eq rfl) (hb hby at_208) (fun _ _ => ⟨rfl, eh39, (by decide : 5 + 0 ≤ _), (by decide : 19 + 0 ≤ _)⟩)
    dsimp only [Pt.U, Pt.locs, Pt.cells, Pt.slots] at X40 l40 y40 z40 st40 hQ40
    subst l40 y40 z40
    obtain ⟨rfl, N40, eh40⟩ := hQ40
    have M40 := Fr.app M39 N40
    refine own_tr st40 ?_
    show own_Go p e below _ T40 (mkF m 211 #[iv p0, .val (.long xa), .second, .val (.long xb), .second, .val (.long xc), .second, iv 2, rv l1, rv k1, rv l1] [(.int 1)])
    refine own_st (fun _ k => XS.ifNo X40.here hx rfl (hb hby at_211) rfl (XT.i0_eq_f (by decide)) k) ?_
    show own_Go p e below _ T40 (mkF m 214 #[iv p0, .val (.long xa), .second, .val (.long xb), .second, .val (.long xc), .second, iv 2, rv l1, rv k1, rv l1] [])
    refine own_st (fun _ k => XT.iconstV X40.here hx rfl (1 : Int32) (hb hby at_214) (by decide) k) ?_
    show own_Go p e below _ T40 (mkF m 215 #[iv p0, .val (.long xa), .second, .val (.long xb), .second, .val (.long xc), .second, iv 2, rv l1, rv k1, rv l1] [(.int 1)])
    refine own_st (fun _ k => XS.goto X40.here hx rfl (pc0 := 215) (pc' := 219) rfl (hb hby at_215) (by decide) (by decide) k) ?_
    show own_Go p e below _ T40 (mkF m 219 #[iv p0, .val (.long xa), .second, .val (.long xb), .second, .val (.long xc), .second, iv 2, rv l1, rv k1, rv l1] [(.int 1)])
    refine own_retN X40 hx Bd.notSynchronized (t := .boolean) Bd.returns (by simp) (hb hby at_219) (by decide) (by decide) ?_
    rw [eh40]
    exact ⟨rfl, M40⟩
  · show own_Go p e below _ T2 (mkF m 17 #[iv p0, .val (.long xa), .second, .val (.long xb), .second, .val (.long xc), .second, iv 3, rv l1, .unset, .unset] [(.int 1), (.int 3)])
    refine own_st (fun _ k => XS.icmpNo X2.here hx rfl (hb hby at_17) rfl (XT.ii_lt_f (by decide)) k) ?_
    show own_Go p e below _ T2 (mkF m 20 #[iv p0, .val (.long xa), .second, .val (.long xb), .second, .val (.long xc), .second, iv 3, rv l1, .unset, .unset] [])
    refine own_st (fun _ k => XS.aload X2.here hx rfl (hb hby at_20) rfl rfl k) ?_
    show own_Go p e below _ T2 (mkF m 22 #[iv p0, .val (.long xa), .second, .val (.long xb), .second, .val (.long xc), .second, iv 3, rv l1, .unset, .unset] [(.ref l1)])
    refine own_st (fun _ k => XT.lloadN X2.here hx rfl (hb hby at_22) rfl k) ?_
    show own_Go p e below _ T2 (mkF m 23 #[iv p0, .val (.long xa), .second, .val (.long xb), .second, .val (.long xc), .second, iv 3, rv l1, .unset, .unset] [(.long xa), (.ref l1)])
    obtain ⟨_, _, ⟨T42, L42, k42, n42⟩, -, X42, ⟨Lc42, hQ42, l42, y42, z42⟩, st42⟩ := Jvm.LawKit.callS X2 hx (y := (⟨"java/lang/Long", "valueOf", "(J)Ljava/lang/Long;"⟩ : MethodName)) hown (mvT hZ (hw _ (List.mem_of_getElem? (i := 80) rfl))) (mvT hZ (hw _ (List.mem_of_getElem? (i := 81) rfl))) (mvT hZ (hw _ (List.mem_of_getElem? (i := 82) rfl))) (mvT hZ (hw _ (List.mem_of_getElem? (i := 83) rfl))) (by decide) (backOf (W := 1) (own_rm_valof l Z a0 hw [] xa w_C T2.heap n0 Z2 O2 S_C hcache) hZ (hw _ (List.mem_of_getElem? (i := 83) rfl)) (hw _ (List.mem_of_getElem? (i := 82) rfl)) (by decide) (by decide)) (g := (mkF m 23 #[iv p0, .val (.long xa), .second, .val (.long xb), .second, .val (.long xc), .second, iv 3, rv l1, .unset, .unset] [(.long xa), (.ref l1)])) rfl (by rw [hml]; rfl) (argsL := [(.long xa)]) (rest := [(.ref l1)]) (lenOf own_pd15 rfl) rfl (by show 2 * 0 + _ ≤ _; exact Nat.le_of_eq rfl) (hb hby at_23) (fun _ _ => ⟨rfl, rfl, (by decide : 1 + 1 ≤ _), (by decide : 3 + 1 ≤ _)⟩)
    dsimp only [Pt.U, Pt.locs, Pt.cells, Pt.slots] at X42 l42 y42 z42 st42 hQ42
    subst l42 y42 z42
    obtain ⟨b1, rfl, N42, KC42, Eb42, Fv42⟩ := hQ42
    have M42 := Fr.app M2 N42
    refine own_st st42 ?_
    show own_Go p e below _ T42 (mkF m 26 #[iv p0, .val (.long xa), .second, .val (.long xb), .second, .val (.long xc), .second, iv 3, rv l1, .unset, .unset] [(.ref b1), (.ref l1)])
    have O42 := O2.keep KC42 all0
    have E42_l1 := E2_l1.keep KC42
    have F42_modCount_l1 := Fm2.keep KC42 nin0
    have F42_elementData_l1 := Fe2.keep KC42 nin0
    have F42_size_l1 := Fs2.keep KC42 nin0
    have Z42 : n0 ≤ T42.heap.size := Nat.le_trans Z2 KC42.1
    have ne_b1_l1 : b1 ≠ l1 := ne_exa Eb42 E42_l1 (by decide)
    obtain ⟨cq43, kq43, q43a, q43b, q43c⟩ := isOf hZ rfl E42_l1
    obtain ⟨_, _, ⟨T43, L43, k43, n43⟩, -, X43, ⟨Lc43, hQ43, l43, y43, z43⟩, st43⟩ := X42.virtualBack hx (y := (⟨"java/util/ArrayList", "add", "(Ljava/lang/Object;)Z"⟩ : MethodName)) (z := (⟨"java/util/ArrayList", "add", "(Ljava/lang/Object;)Z"⟩ : MethodName)) hown (mvT hZ (hw _ (List.mem_of_getElem? (i := 88) rfl))) (mvT hZ (hw _ (List.mem_of_getElem? (i := 89) rfl))) (notFace_of_selects (args := #[]) (mvT hZ (hw _ (List.mem_of_getElem? (i := 91) rfl)))) (mvT hZ (hw _ (List.mem_of_getElem? (i := 91) rfl))) (mvT hZ (hw _ (List.mem_of_getElem? (i := 90) rfl))) (by decide) (backOf (W := 0) (own_rm_add1a l Z a0 hw [] l1 b1 w_D k_D (0 : Int32) T42.heap n0 Z42 E42_l1 F42_modCount_l1 F42_elementData_l1 F42_size_l1 g_l1 O42 S_D V_D Eb42) hZ (hw _ (List.mem_of_getElem? (i := 92) rfl)) (hw _ (List.mem_of_getElem? (i := 2) rfl)) (by decide) (by decide)) q43a q43c (g := (mkF m 26 #[iv p0, .val (.long xa), .second, .val (.long xb), .second, .val (.long xc), .second, iv 3, rv l1, .unset, .unset] [(.ref b1), (.ref l1)])) rfl (by rw [hml]; rfl) (Steps.refl _) (argsL := [(.ref b1)]) (rest := []) (lenOf own_pd16 rfl) rfl (by show 2 * 0 + _ ≤ _; exact Nat.le_of_eq rfl) (hb hby at_26) (fun _ _ => ⟨rfl, rfl, (by decide : 2 + 1 ≤ _), (by decide : 4 + 10 ≤ _)⟩)
    dsimp only [Pt.U, Pt.locs, Pt.cells, Pt.slots] at X43 l43 y43 z43 st43 hQ43
    subst l43 y43 z43
    obtain ⟨d1, k_d1, rfl, N43, KC43, Fm43, Fe43, Fs43, Vd43, Ov_d1, sz_d1⟩ := hQ43
    have M43 := Fr.app M42 N43
    refine own_tr st43 ?_
    show own_Go p e below _ T43 (mkF m 29 #[iv p0, .val (.long xa), .second, .val (.long xb), .second, .val (.long xc), .second, iv 3, rv l1, .unset, .unset] [(.int 1)])
    have O43 := O42.keep KC43 (allS g_l1 all0)
    have E43_l1 := E42_l1.keep KC43
    have E43_b1 := Eb42.keep KC43
    have F43_value_b1 := Fv42.keep KC43 (ninS ne_b1_l1 nin0)
    have Z43 : n0 ≤ T43.heap.size := Nat.le_trans Z42 KC43.1
    have g_d1 : n0 ≤ d1 := Nat.le_trans Z42 sz_d1
    have ne_l1_d1 : l1 ≠ d1 := Nat.ne_of_lt (Nat.lt_of_lt_of_le E42_l1.lt sz_d1)
    have ne_b1_d1 : b1 ≠ d1 := Nat.ne_of_lt (Nat.lt_of_lt_of_le Eb42.lt sz_d1)
    refine own_st (fun _ k => XT.pop X43.here hx rfl (hb hby at_29) rfl rfl k) ?_
    show own_Go p e below _ T43 (mkF m 30 #[iv p0, .val (.long xa), .second, .val (.long xb), .second, .val (.long xc), .second, iv 3, rv l1, .unset, .unset] [])
    refine own_st (fun _ k => XS.iload X43.here hx rfl (hb hby at_30) rfl k) ?_
    show own_Go p e below _ T43 (mkF m 32 #[iv p0, .val (.long xa), .second, .val (.long xb), .second, .val (.long xc), .second, iv 3, rv l1, .unset, .unset] [(.int 3)])
    refine own_st (fun _ k => XT.iconstV X43.here hx rfl (2 : Int32) (hb hby at_32) (by decide) k) ?_
    show own_Go p e below _ T43 (mkF m 33 #[iv p0, .val (.long xa), .second, .val (.long xb), .second, .val (.long xc), .second, iv 3, rv l1, .unset, .unset] [(.int 2), (.int 3)])
    refine own_st (fun _ k => XS.icmpNo X43.here hx rfl (hb hby at_33) rfl (XT.ii_lt_f (by decide)) k) ?_
    show own_Go p e below _ T43 (mkF m 36 #[iv p0, .val (.long xa), .second, .val (.long xb), .second, .val (.long xc), .second, iv 3, rv l1, .unset, .unset] [])
    refine own_st (fun _ k => XS.aload X43.here hx rfl (hb hby at_36) rfl rfl k) ?_
    show own_Go p e below _ T43 (mkF m 38 #[iv p0, .val (.long xa), .second, .val (.long xb), .second, .val (.long xc), .second, iv 3, rv l1, .unset, .unset] [(.ref l1)])
    refine own_st (fun _ k => XT.lloadN X43.here hx rfl (hb hby at_38) rfl k) ?_
    show own_Go p e below _ T43 (mkF m 39 #[iv p0, .val (.long xa), .second, .val (.long xb), .second, .val (.long xc), .second, iv 3, rv l1, .unset, .unset] [(.long xb), (.ref l1)])
    obtain ⟨_, _, ⟨T44, L44, k44, n44⟩, -, X44, ⟨Lc44, hQ44, l44, y44, z44⟩, st44⟩ := Jvm.LawKit.callS X43 hx (y := (⟨"java/lang/Long", "valueOf", "(J)Ljava/lang/Long;"⟩ : MethodName)) hown (mvT hZ (hw _ (List.mem_of_getElem? (i := 80) rfl))) (mvT hZ (hw _ (List.mem_of_getElem? (i := 81) rfl))) (mvT hZ (hw _ (List.mem_of_getElem? (i := 82) rfl))) (mvT hZ (hw _ (List.mem_of_getElem? (i := 83) rfl))) (by decide) (backOf (W := 1) (own_rm_valof l Z a0 hw [] xb w_C T43.heap n0 Z43 O43 S_C hcache) hZ (hw _ (List.mem_of_getElem? (i := 83) rfl)) (hw _ (List.mem_of_getElem? (i := 82) rfl)) (by decide) (by decide)) (g := (mkF m 39 #[iv p0, .val (.long xa), .second, .val (.long xb), .second, .val (.long xc), .second, iv 3, rv l1, .unset, .unset] [(.long xb), (.ref l1)])) rfl (by rw [hml]; rfl) (argsL := [(.long xb)]) (rest := [(.ref l1)]) (lenOf own_pd15 rfl) rfl (by show 2 * 0 + _ ≤ _; exact Nat.le_of_eq rfl) (hb hby at_39) (fun _ _ => ⟨rfl, rfl, (by decide : 3 + 1 ≤ _), (by decide : 14 + 1 ≤ _)⟩)
    dsimp only [Pt.U, Pt.locs, Pt.cells, Pt.slots] at X44 l44 y44 z44 st44 hQ44
    subst l44 y44 z44
    obtain ⟨b2, rfl, N44, KC44, Eb44, Fv44⟩ := hQ44
    have M44 := Fr.app M43 N44
    refine own_st st44 ?_
    show own_Go p e below _ T44 (mkF m 42 #[iv p0, .val (.long xa), .second, .val (.long xb), .second, .val (.long xc), .second, iv 3, rv l1, .unset, .unset] [(.ref b2), (.ref l1)])
    have O44 := O43.keep KC44 all0
    have V44_d1 := Vd43.keep KC44 nin0
    have E44_l1 := E43_l1.keep KC44
    have E44_b1 := E43_b1.keep KC44
    have F44_modCount_l1 := Fm43.keep KC44 nin0
    have F44_elementData_l1 := Fe43.keep KC44 nin0
    have F44_size_l1 := Fs43.keep KC44 nin0
    have F44_value_b1 := F43_value_b1.keep KC44 nin0
    have Z44 : n0 ≤ T44.heap.size := Nat.le_trans Z43 KC44.1
    have ne_b2_l1 : b2 ≠ l1 := ne_exa Eb44 E44_l1 (by decide)
    have ne_b2_d1 : b2 ≠ d1 := by obtain ⟨_, A_, -⟩ := V44_d1; exact ne_arr Eb44 (hw _ (List.mem_of_getElem? (i := 118) rfl)) A_
    obtain ⟨cq45, kq45, q45a, q45b, q45c⟩ := isOf hZ rfl E44_l1
    obtain ⟨_, _, ⟨T45, L45, k45, n45⟩, -, X45, ⟨Lc45, hQ45, l45, y45, z45⟩, st45⟩ := X44.virtualBack hx (y := (⟨"java/util/ArrayList", "add", "(Ljava/lang/Object;)Z"⟩ : MethodName)) (z := (⟨"java/util/ArrayList", "add", "(Ljava/lang/Object;)Z"⟩ : MethodName)) hown (mvT hZ (hw _ (List.mem_of_getElem? (i := 88) rfl))) (mvT hZ (hw _ (List.mem_of_getElem? (i := 89) rfl))) (notFace_of_selects (args := #[]) (mvT hZ (hw _ (List.mem_of_getElem? (i := 91) rfl)))) (mvT hZ (hw _ (List.mem_of_getElem? (i := 91) rfl))) (mvT hZ (hw _ (List.mem_of_getElem? (i := 90) rfl))) (by decide) (backOf (W := 0) (own_rm_add1m1 l Z a0 hw [] l1 b2 d1 k_d1 ((0 : Int32) + (1 : Int32)) b1 T44.heap n0 Z44 E44_l1 F44_modCount_l1 F44_elementData_l1 F44_size_l1 g_l1 Eb44 V44_d1 Ov_d1 g_d1 ne_l1_d1) hZ (hw _ (List.mem_of_getElem? (i := 92) rfl)) (hw _ (List.mem_of_getElem? (i := 2) rfl)) (by decide) (by decide)) q45a q45c (g := (mkF m 42 #[iv p0, .val (.long xa), .second, .val (.long xb), .second, .val (.long xc), .second, iv 3, rv l1, .unset, .unset] [(.ref b2), (.ref l1)])) rfl (by rw [hml]; rfl) (Steps.refl _) (argsL := [(.ref b2)]) (rest := []) (lenOf own_pd16 rfl) rfl (by show 2 * 0 + _ ≤ _; exact Nat.le_of_eq rfl) (hb hby at_42) (fun _ _ => ⟨rfl, rfl, (by decide : 4 + 0 ≤ _), (by decide : 15 + 0 ≤ _)⟩)
    dsimp only [Pt.U, Pt.locs, Pt.cells, Pt.slots] at X45 l45 y45 z45 st45 hQ45
    subst l45 y45 z45
    obtain ⟨rfl, N45, KC45, Fm45, Fe45, Fs45, Vd45⟩ := hQ45
    have M45 := Fr.app M44 N45
    refine own_tr st45 ?_
    show own_Go p e below _ T45 (mkF m 45 #[iv p0, .val (.long xa), .second, .val (.long xb), .second, .val (.long xc), .second, iv 3, rv l1, .unset, .unset] [(.int 1)])
    have O45 := O44.keep KC45 (allS g_l1 (allS g_d1 all0))
    have E45_l1 := E44_l1.keep KC45
    have E45_b1 := E44_b1.keep KC45
    have E45_b2 := Eb44.keep KC45
    have F45_value_b1 := F44_value_b1.keep KC45 (ninS ne_b1_l1 (ninS ne_b1_d1 nin0))
    have F45_value_b2 := Fv44.keep KC45 (ninS ne_b2_l1 (ninS ne_b2_d1 nin0))
    have Z45 : n0 ≤ T45.heap.size := Nat.le_trans Z44 KC45.1
    refine own_st (fun _ k => XT.pop X45.here hx rfl (hb hby at_45) rfl rfl k) ?_
    show own_Go p e below _ T45 (mkF m 46 #[iv p0, .val (.long xa), .second, .val (.long xb), .second, .val (.long xc), .second, iv 3, rv l1, .unset, .unset] [])
    refine own_st (fun _ k => XS.iload X45.here hx rfl (hb hby at_46) rfl k) ?_
    show own_Go p e below _ T45 (mkF m 48 #[iv p0, .val (.long xa), .second, .val (.long xb), .second, .val (.long xc), .second, iv 3, rv l1, .unset, .unset] [(.int 3)])
    refine own_st (fun _ k => XT.iconstV X45.here hx rfl (3 : Int32) (hb hby at_48) (by decide) k) ?_
    show own_Go p e below _ T45 (mkF m 49 #[iv p0, .val (.long xa), .second, .val (.long xb), .second, .val (.long xc), .second, iv 3, rv l1, .unset, .unset] [(.int 3), (.int 3)])
    refine own_st (fun _ k => XS.icmpNo X45.here hx rfl (hb hby at_49) rfl (XT.ii_lt_f (by decide)) k) ?_
    show own_Go p e below _ T45 (mkF m 52 #[iv p0, .val (.long xa), .second, .val (.long xb), .second, .val (.long xc), .second, iv 3, rv l1, .unset, .unset] [])
    refine own_st (fun _ k => XS.aload X45.here hx rfl (hb hby at_52) rfl rfl k) ?_
    show own_Go p e below _ T45 (mkF m 54 #[iv p0, .val (.long xa), .second, .val (.long xb), .second, .val (.long xc), .second, iv 3, rv l1, .unset, .unset] [(.ref l1)])
    refine own_st (fun _ k => XT.lload X45.here hx rfl (hb hby at_54) rfl k) ?_
    show own_Go p e below _ T45 (mkF m 56 #[iv p0, .val (.long xa), .second, .val (.long xb), .second, .val (.long xc), .second, iv 3, rv l1, .unset, .unset] [(.long xc), (.ref l1)])
    obtain ⟨_, _, ⟨T46, L46, k46, n46⟩, -, X46, ⟨Lc46, hQ46, l46, y46, z46⟩, st46⟩ := Jvm.LawKit.callS X45 hx (y := (⟨"java/lang/Long", "valueOf", "(J)Ljava/lang/Long;"⟩ : MethodName)) hown (mvT hZ (hw _ (List.mem_of_getElem? (i := 80) rfl))) (mvT hZ (hw _ (List.mem_of_getElem? (i := 81) rfl))) (mvT hZ (hw _ (List.mem_of_getElem? (i := 82) rfl))) (mvT hZ (hw _ (List.mem_of_getElem? (i := 83) rfl))) (by decide) (backOf (W := 1) (own_rm_valof l Z a0 hw [] xc w_C T45.heap n0 Z45 O45 S_C hcache) hZ (hw _ (List.mem_of_getElem? (i := 83) rfl)) (hw _ (List.mem_of_getElem? (i := 82) rfl)) (by decide) (by decide)) (g := (mkF m 56 #[iv p0, .val (.long xa), .second, .val (.long xb), .second, .val (.long xc), .second, iv 3, rv l1, .unset, .unset] [(.long xc), (.ref l1)])) rfl (by rw [hml]; rfl) (argsL := [(.long xc)]) (rest := [(.ref l1)]) (lenOf own_pd15 rfl) rfl (by show 2 * 0 + _ ≤ _; exact Nat.le_of_eq rfl) (hb hby at_56) (fun _ _ => ⟨rfl, rfl, (by decide : 4 + 1 ≤ _), (by decide : 15 + 1 ≤ _)⟩)
    dsimp only [Pt.U, Pt.locs, Pt.cells, Pt.slots] at X46 l46 y46 z46 st46 hQ46
    subst l46 y46 z46
    obtain ⟨b3, rfl, N46, KC46, Eb46, Fv46⟩ := hQ46
    have M46 := Fr.app M45 N46
    refine own_st st46 ?_
    show own_Go p e below _ T46 (mkF m 59 #[iv p0, .val (.long xa), .second, .val (.long xb), .second, .val (.long xc), .second, iv 3, rv l1, .unset, .unset] [(.ref b3), (.ref l1)])
    have O46 := O45.keep KC46 all0
    have V46_d1 := Vd45.keep KC46 nin0
    have E46_l1 := E45_l1.keep KC46
    have E46_b1 := E45_b1.keep KC46
    have E46_b2 := E45_b2.keep KC46
    have F46_modCount_l1 := Fm45.keep KC46 nin0
    have F46_elementData_l1 := Fe45.keep KC46 nin0
    have F46_size_l1 := Fs45.keep KC46 nin0
    have F46_value_b1 := F45_value_b1.keep KC46 nin0
    have F46_value_b2 := F45_value_b2.keep KC46 nin0
    have Z46 : n0 ≤ T46.heap.size := Nat.le_trans Z45 KC46.1
    have ne_b3_l1 : b3 ≠ l1 := ne_exa Eb46 E46_l1 (by decide)
    have ne_b3_d1 : b3 ≠ d1 := by obtain ⟨_, A_, -⟩ := V46_d1; exact ne_arr Eb46 (hw _ (List.mem_of_getElem? (i := 118) rfl)) A_
    obtain ⟨cq47, kq47, q47a, q47b, q47c⟩ := isOf hZ rfl E46_l1
    obtain ⟨_, _, ⟨T47, L47, k47, n47⟩, -, X47, ⟨Lc47, hQ47, l47, y47, z47⟩, st47⟩ := X46.virtualBack hx (y := (⟨"java/util/ArrayList", "add", "(Ljava/lang/Object;)Z"⟩ : MethodName)) (z := (⟨"java/util/ArrayList", "add", "(Ljava/lang/Object;)Z"⟩ : MethodName)) hown (mvT hZ (hw _ (List.mem_of_getElem? (i := 88) rfl))) (mvT hZ (hw _ (List.mem_of_getElem? (i := 89) rfl))) (notFace_of_selects (args := #[]) (mvT hZ (hw _ (List.mem_of_getElem? (i := 91) rfl)))) (mvT hZ (hw _ (List.mem_of_getElem? (i := 91) rfl))) (mvT hZ (hw _ (List.mem_of_getElem? (i := 90) rfl))) (by decide) (backOf (W := 0) (own_rm_add1m2 l Z a0 hw [] l1 b3 d1 k_d1 (((0 : Int32) + (1 : Int32)) + (1 : Int32)) b1 b2 T46.heap n0 Z46 E46_l1 F46_modCount_l1 F46_elementData_l1 F46_size_l1 g_l1 Eb46 V46_d1 Ov_d1 g_d1 ne_l1_d1) hZ (hw _ (List.mem_of_getElem? (i := 92) rfl)) (hw _ (List.mem_of_getElem? (i := 2) rfl)) (by decide) (by decide)) q47a q47c (g := (mkF m 59 #[iv p0, .val (.long xa), .second, .val (.long xb), .second, .val (.long xc), .second, iv 3, rv l1, .unset, .unset] [(.ref b3), (.ref l1)])) rfl (by rw [hml]; rfl) (Steps.refl _) (argsL := [(.ref b3)]) (rest := []) (lenOf own_pd16 rfl) rfl (by show 2 * 0 + _ ≤ _; exact Nat.le_of_eq rfl) (hb hby at_59) (fun _ _ => ⟨rfl, rfl, (by decide : 5 + 0 ≤ _), (by decide : 16 + 0 ≤ _)⟩)
    dsimp only [Pt.U, Pt.locs, Pt.cells, Pt.slots] at X47 l47 y47 z47 st47 hQ47
    subst l47 y47 z47
    obtain ⟨rfl, N47, KC47, Fm47, Fe47, Fs47, Vd47⟩ := hQ47
    have M47 := Fr.app M46 N47
    refine own_tr st47 ?_
    show own_Go p e below _ T47 (mkF m 62 #[iv p0, .val (.long xa), .second, .val (.long xb), .second, .val (.long xc), .second, iv 3, rv l1, .unset, .unset] [(.int 1)])
    have O47 := O46.keep KC47 (allS g_l1 (allS g_d1 all0))
    have E47_l1 := E46_l1.keep KC47
    have E47_b1 := E46_b1.keep KC47
    have E47_b2 := E46_b2.keep KC47
    have E47_b3 := Eb46.keep KC47
    have F47_value_b1 := F46_value_b1.keep KC47 (ninS ne_b1_l1 (ninS ne_b1_d1 nin0))
    have F47_value_b2 := F46_value_b2.keep KC47 (ninS ne_b2_l1 (ninS ne_b2_d1 nin0))
    have F47_value_b3 := Fv46.keep KC47 (ninS ne_b3_l1 (ninS ne_b3_d1 nin0))
    have Z47 : n0 ≤ T47.heap.size := Nat.le_trans Z46 KC47.1
    refine own_st (fun _ k => XT.pop X47.here hx rfl (hb hby at_62) rfl rfl k) ?_
    show own_Go p e below _ T47 (mkF m 63 #[iv p0, .val (.long xa), .second, .val (.long xb), .second, .val (.long xc), .second, iv 3, rv l1, .unset, .unset] [])
    refine own_st (fun _ k => XS.aload X47.here hx rfl (hb hby at_63) rfl rfl k) ?_
    show own_Go p e below _ T47 (mkF m 65 #[iv p0, .val (.long xa), .second, .val (.long xb), .second, .val (.long xc), .second, iv 3, rv l1, .unset, .unset] [(.ref l1)])
    obtain ⟨_, _, ⟨T48, L48, k48, n48⟩, -, X48, ⟨Lc48, hQ48, l48, y48, z48⟩, st48⟩ := Jvm.LawKit.callS X47 hx (y := (⟨"com/example/limpet/limpet/RedisBackend$Acknowledged", "notAsked", "(Ljava/util/List;)Lcom/example/limpet/limpet/RedisBackend$Acknowledged;"⟩ : MethodName)) hown (mvT hZ (hw _ (List.mem_of_getElem? (i := 26) rfl))) (mvT hZ (hw _ (List.mem_of_getElem? (i := 27) rfl))) (mvT hZ (hw _ (List.mem_of_getElem? (i := 28) rfl))) (mvT hZ (hw _ (List.mem_of_getElem? (i := 29) rfl))) (by decide) (backOf (W := 0) (own_rm_nota l Z a0 hw [] l1 T47.heap n0 Z47) hZ (hw _ (List.mem_of_getElem? (i := 29) rfl)) (hw _ (List.mem_of_getElem? (i := 28) rfl)) (by decide) (by decide)) (g := (mkF m 65 #[iv p0, .val (.long xa), .second, .val (.long xb), .second, .val (.long xc), .second, iv 3, rv l1, .unset, .unset] [(.ref l1)])) rfl (by rw [hml]; rfl) (argsL := [(.ref l1)]) (rest := []) (lenOf own_pd9 rfl) rfl (by show 2 * 0 + _ ≤ _; exact Nat.le_of_eq rfl) (hb hby at_65) (fun _ _ => ⟨rfl, rfl, (by decide : 5 + 1 ≤ _), (by decide : 16 + 4 ≤ _)⟩)
    dsimp only [Pt.U, Pt.locs, Pt.cells, Pt.slots] at X48 l48 y48 z48 st48 hQ48
    subst l48 y48 z48
    obtain ⟨k1, rfl, N48, KC48, Ek48, Fr48, Fa48, Fc48, Fx48⟩ := hQ48
    have M48 := Fr.app M47 N48
    refine own_st st48 ?_
    show own_Go p e below _ T48 (mkF m 68 #[iv p0, .val (.long xa), .second, .val (.long xb), .second, .val (.long xc), .second, iv 3, rv l1, .unset, .unset] [(.ref k1)])
    have O48 := O47.keep KC48 all0
    have V48_d1 := Vd47.keep KC48 nin0
    have E48_l1 := E47_l1.keep KC48
    have E48_b1 := E47_b1.keep KC48
    have E48_b2 := E47_b2.keep KC48
    have E48_b3 := E47_b3.keep KC48
    have F48_modCount_l1 := Fm47.keep KC48 nin0
    have F48_elementData_l1 := Fe47.keep KC48 nin0
    have F48_size_l1 := Fs47.keep KC48 nin0
    have F48_value_b1 := F47_value_b1.keep KC48 nin0
    have F48_value_b2 := F47_value_b2.keep KC48 nin0
    have F48_value_b3 := F47_value_b3.keep KC48 nin0
    have Z48 : n0 ≤ T48.heap.size := Nat.le_trans Z47 KC48.1
    refine own_st (fun _ k => XS.astore X48.here hx rfl (hb hby at_68) rfl rfl (l' := #[iv p0, .val (.long xa), .second, .val (.long xb), .second, .val (.long xc), .second, iv 3, rv l1, rv k1, .unset]) rfl k) ?_
    show own_Go p e below _ T48 (mkF m 70 #[iv p0, .val (.long xa), .second, .val (.long xb), .second, .val (.long xc), .second, iv 3, rv l1, rv k1, .unset] [])
    refine own_st (fun _ k => XS.aload X48.here hx rfl (hb hby at_70) rfl rfl k) ?_
    show own_Go p e below _ T48 (mkF m 72 #[iv p0, .val (.long xa), .second, .val (.long xb), .second, .val (.long xc), .second, iv 3, rv l1, rv k1, .unset] [(.ref k1)])
    obtain ⟨cq49, kq49, q49a, q49b, q49c⟩ := isOf hZ rfl Ek48
    obtain ⟨_, _, ⟨T49, L49, k49, n49⟩, -, X49, ⟨Lc49, hQ49, l49, y49, z49⟩, st49⟩ := X48.virtualBack hx (y := (⟨"com/example/limpet/limpet/RedisBackend$Acknowledged", "reply", "()Ljava/util/List;"⟩ : MethodName)) (z := (⟨"com/example/limpet/limpet/RedisBackend$Acknowledged", "reply", "()Ljava/util/List;"⟩ : MethodName)) hown (mvT hZ (hw _ (List.mem_of_getElem? (i := 44) rfl))) (mvT hZ (hw _ (List.mem_of_getElem? (i := 45) rfl))) (notFace_of_selects (args := #[]) (mvT hZ (hw _ (List.mem_of_getElem? (i := 47) rfl)))) (mvT hZ (hw _ (List.mem_of_getElem? (i := 47) rfl))) (mvT hZ (hw _ (List.mem_of_getElem? (i := 46) rfl))) (by decide) (backOf (W := 0) (own_rm_grep l Z a0 hw [] k1 l1 T48.heap n0 Z48 Fr48) hZ (hw _ (List.mem_of_getElem? (i := 48) rfl)) (hw _ (List.mem_of_getElem? (i := 28) rfl)) (by decide) (by decide)) q49a q49c (g := (mkF m 72 #[iv p0, .val (.long xa), .second, .val (.long xb), .second, .val (.long xc), .second, iv 3, rv l1, rv k1, .unset] [(.ref k1)])) rfl (by rw [hml]; rfl) (Steps.refl _) (argsL := []) (rest := []) (lenOf own_pd10 rfl) rfl (by show 2 * 0 + _ ≤ _; exact Nat.le_of_eq rfl) (hb hby at_72) (fun _ _ => ⟨rfl, rfl, (by decide : 6 + 0 ≤ _), (by decide : 20 + 0 ≤ _)⟩)
    dsimp only [Pt.U, Pt.locs, Pt.cells, Pt.slots] at X49 l49 y49 z49 st49 hQ49
    subst l49 y49 z49
    obtain ⟨rfl, N49, eh49⟩ := hQ49
    have M49 := Fr.app M48 N49
    refine own_tr st49 ?_
    show own_Go p e below _ T49 (mkF m 75 #[iv p0, .val (.long xa), .second, .val (.long xb), .second, .val (.long xc), .second, iv 3, rv l1, rv k1, .unset] [(.ref l1)])
    refine own_st (fun _ k => XS.astore X49.here hx rfl (hb hby at_75) rfl rfl (l' := #[iv p0, .val (.long xa), .second, .val (.long xb), .second, .val (.long xc), .second, iv 3, rv l1, rv k1, rv l1]) rfl k) ?_
    show own_Go p e below _ T49 (mkF m 77 #[iv p0, .val (.long xa), .second, .val (.long xb), .second, .val (.long xc), .second, iv 3, rv l1, rv k1, rv l1] [])
    refine own_st (fun _ k => XS.aload X49.here hx rfl (hb hby at_77) rfl rfl k) ?_
    show own_Go p e below _ T49 (mkF m 79 #[iv p0, .val (.long xa), .second, .val (.long xb), .second, .val (.long xc), .second, iv 3, rv l1, rv k1, rv l1] [(.ref l1)])
    refine own_st (fun _ k => XS.aload X49.here hx rfl (hb hby at_79) rfl rfl k) ?_
    show own_Go p e below _ T49 (mkF m 81 #[iv p0, .val (.long xa), .second, .val (.long xb), .second, .val (.long xc), .second, iv 3, rv l1, rv k1, rv l1] [(.ref l1), (.ref l1)])
    refine own_st (fun _ k => XT.acmpNo X49.here hx rfl (hb hby at_81) rfl rfl rfl (XT.aa_ne_f rfl) k) ?_
    show own_Go p e below _ T49 (mkF m 84 #[iv p0, .val (.long xa), .second, .val (.long xb), .second, .val (.long xc), .second, iv 3, rv l1, rv k1, rv l1] [])
    refine own_st (fun _ k => XS.aload X49.here hx rfl (hb hby at_84) rfl rfl k) ?_
    show own_Go p e below _ T49 (mkF m 86 #[iv p0, .val (.long xa), .second, .val (.long xb), .second, .val (.long xc), .second, iv 3, rv l1, rv k1, rv l1] [(.ref l1)])
    obtain ⟨cq50, kq50, q50a, q50b, q50c⟩ := isOf hZ eh49 E48_l1
    obtain ⟨_, _, ⟨T50, L50, k50, n50⟩, -, X50, ⟨Lc50, hQ50, l50, y50, z50⟩, st50⟩ := X49.interfaceBack hx (xi := (⟨"java/util/List", "size", "()I"⟩ : MethodName)) (y := (⟨"java/util/ArrayList", "size", "()I"⟩ : MethodName)) hown (mvT hZ (hw _ (List.mem_of_getElem? (i := 49) rfl))) (mvT hZ (hw _ (List.mem_of_getElem? (i := 50) rfl))) (mvT hZ (hw _ (List.mem_of_getElem? (i := 51) rfl))) (mvT hZ (hw _ (List.mem_of_getElem? (i := 52) rfl))) (mvT hZ (hw _ (List.mem_of_getElem? (i := 53) rfl))) (mvT hZ (hw _ (List.mem_of_getElem? (i := 54) rfl))) (mvT hZ (hw _ (List.mem_of_getElem? (i := 55) rfl))) (mvT hZ (hw _ (List.mem_of_getElem? (i := 56) rfl))) (by decide) (backOf (W := 0) (own_rm_size l Z a0 hw [] l1 (3 : Int32) T48.heap n0 Z48 F48_size_l1) hZ (hw _ (List.mem_of_getElem? (i := 57) rfl)) (hw _ (List.mem_of_getElem? (i := 2) rfl)) (by decide) (by decide)) q50a q50b q50c (g := (mkF m 86 #[iv p0, .val (.long xa), .second, .val (.long xb), .second, .val (.long xc), .second, iv 3, rv l1, rv k1, rv l1] [(.ref l1)])) rfl (by rw [hml]; rfl) (Steps.refl _) (argsL := []) (rest := []) (lenOf own_pd11 rfl) rfl (by show 2 * 0 + _ ≤ _; exact Nat.le_of_eq rfl) (hb hby at_86) (fun _ _ => ⟨rfl, eh49, (by decide : 6 + 0 ≤ _), (by decide : 20 + 0 ≤ _)⟩)
    dsimp only [Pt.U, Pt.locs, Pt.cells, Pt.slots] at X50 l50 y50 z50 st50 hQ50
    subst l50 y50 z50
    obtain ⟨rfl, N50, eh50⟩ := hQ50
    have M50 := Fr.app M49 N50
    refine own_tr st50 ?_
    show own_Go p e below _ T50 (mkF m 91 #[iv p0, .val (.long xa), .second, .val (.long xb), .second, .val (.long xc), .second, iv 3, rv l1, rv k1, rv l1] [(.int 3)])
    refine own_st (fun _ k => XS.iload X50.here hx rfl (hb hby at_91) rfl k) ?_
    show own_Go p e below _ T50 (mkF m 93 #[iv p0, .val (.long xa), .second, .val (.long xb), .second, .val (.long xc), .second, iv 3, rv l1, rv k1, rv l1] [(.int 3), (.int 3)])
    refine own_st (fun _ k => XS.icmpYes X50.here hx rfl (pc0 := 93) (pc' := 98) rfl (hb hby at_93) rfl (XT.ii_eq_t rfl) (by decide) (by decide) k) ?_
    show own_Go p e below _ T50 (mkF m 98 #[iv p0, .val (.long xa), .second, .val (.long xb), .second, .val (.long xc), .second, iv 3, rv l1, rv k1, rv l1] [])
    refine own_st (fun _ k => XS.iload X50.here hx rfl (hb hby at_98) rfl k) ?_
    show own_Go p e below _ T50 (mkF m 100 #[iv p0, .val (.long xa), .second, .val (.long xb), .second, .val (.long xc), .second, iv 3, rv l1, rv k1, rv l1] [(.int 3)])
    refine own_st (fun _ k => XT.iconstV X50.here hx rfl (1 : Int32) (hb hby at_100) (by decide) k) ?_
    show own_Go p e below _ T50 (mkF m 101 #[iv p0, .val (.long xa), .second, .val (.long xb), .second, .val (.long xc), .second, iv 3, rv l1, rv k1, rv l1] [(.int 1), (.int 3)])
    refine own_st (fun _ k => XS.icmpNo X50.here hx rfl (hb hby at_101) rfl (XT.ii_lt_f (by decide)) k) ?_
    show own_Go p e below _ T50 (mkF m 104 #[iv p0, .val (.long xa), .second, .val (.long xb), .second, .val (.long xc), .second, iv 3, rv l1, rv k1, rv l1] [])
    refine own_st (fun _ k => XS.aload X50.here hx rfl (hb hby at_104) rfl rfl k) ?_
    show own_Go p e below _ T50 (mkF m 106 #[iv p0, .val (.long xa), .second, .val (.long xb), .second, .val (.long xc), .second, iv 3, rv l1, rv k1, rv l1] [(.ref l1)])
    refine own_st (fun _ k => XT.iconstV X50.here hx rfl (0 : Int32) (hb hby at_106) (by decide) k) ?_
    show own_Go p e below _ T50 (mkF m 107 #[iv p0, .val (.long xa), .second, .val (.long xb), .second, .val (.long xc), .second, iv 3, rv l1, rv k1, rv l1] [(.int 0), (.ref l1)])
    obtain ⟨cq51, kq51, q51a, q51b, q51c⟩ := isOf hZ eh50 E48_l1
    obtain ⟨_, _, ⟨T51, L51, k51, n51⟩, -, X51, ⟨Lc51, hQ51, l51, y51, z51⟩, st51⟩ := X50.interfaceBack hx (xi := (⟨"java/util/List", "get", "(I)Ljava/lang/Object;"⟩ : MethodName)) (y := (⟨"java/util/ArrayList", "get", "(I)Ljava/lang/Object;"⟩ : MethodName)) hown (mvT hZ (hw _ (List.mem_of_getElem? (i := 132) rfl))) (mvT hZ (hw _ (List.mem_of_getElem? (i := 133) rfl))) (mvT hZ (hw _ (List.mem_of_getElem? (i := 134) rfl))) (mvT hZ (hw _ (List.mem_of_getElem? (i := 135) rfl))) (mvT hZ (hw _ (List.mem_of_getElem? (i := 136) rfl))) (mvT hZ (hw _ (List.mem_of_getElem? (i := 137) rfl))) (mvT hZ (hw _ (List.mem_of_getElem? (i := 138) rfl))) (mvT hZ (hw _ (List.mem_of_getElem? (i := 56) rfl))) (by decide) (backOf (W := 0) (own_rm_get l Z a0 hw [] l1 d1 k_d1 (0 : Int32) [(.ref b1), (.ref b2), (.ref b3), .null, .null, .null, .null, .null, .null, .null] b1 (3 : Int32) T48.heap n0 Z48 F48_elementData_l1 V48_d1 (by decide) (by decide) rfl F48_size_l1 (by decide) E48_l1) hZ (hw _ (List.mem_of_getElem? (i := 139) rfl)) (hw _ (List.mem_of_getElem? (i := 2) rfl)) (by decide) (by decide)) q51a q51b q51c (g := (mkF m 107 #[iv p0, .val (.long xa), .second, .val (.long xb), .second, .val (.long xc), .second, iv 3, rv l1, rv k1, rv l1] [(.int 0), (.ref l1)])) rfl (by rw [hml]; rfl) (Steps.refl _) (argsL := [(.int (0 : Int32))]) (rest := []) (lenOf own_pd7 rfl) rfl (by show 2 * 0 + _ ≤ _; exact Nat.le_of_eq rfl) (hb hby at_107) (fun _ _ => ⟨rfl, eh50, (by decide : 6 + 0 ≤ _), (by decide : 20 + 0 ≤ _)⟩)
    dsimp only [Pt.U, Pt.locs, Pt.cells, Pt.slots] at X51 l51 y51 z51 st51 hQ51
    subst l51 y51 z51
    obtain ⟨rfl, N51, eh51⟩ := hQ51
    have M51 := Fr.app M50 N51
    refine own_tr st51 ?_
    show own_Go p e below _ T51 (mkF m 112 #[iv p0, .val (.long xa), .second, .val (.long xb), .second, .val (.long xc), .second, iv 3, rv l1, rv k1, rv l1] [(.ref b1)])
    obtain ⟨T52, X52, e52, st52⟩ := castY X51 hx hZ hown (hw _ (List.mem_of_getElem? (i := 153) rfl)) eh51 (Ins.self E48_b1) (g := (mkF m 112 #[iv p0, .val (.long xa), .second, .val (.long xb), .second, .val (.long xc), .second, iv 3, rv l1, rv k1, rv l1] [(.ref b1)])) rfl rfl (hb hby at_112)
    refine own_st st52 ?_
    show own_Go p e below _ T52 (mkF m 115 #[iv p0, .val (.long xa), .second, .val (.long xb), .second, .val (.long xc), .second, iv 3, rv l1, rv k1, rv l1] [(.ref b1)])
    obtain ⟨cq53, kq53, q53a, q53b, q53c⟩ := isOf hZ e52 E48_b1
    obtain ⟨_, _, ⟨T53, L53, k53, n53⟩, -, X53, ⟨Lc53, hQ53, l53, y53, z53⟩, st53⟩ := X52.virtualBack hx (y := (⟨"java/lang/Long", "longValue", "()J"⟩ : MethodName)) (z := (⟨"java/lang/Long", "longValue", "()J"⟩ : MethodName)) hown (mvT hZ (hw _ (List.mem_of_getElem? (i := 154) rfl))) (mvT hZ (hw _ (List.mem_of_getElem? (i := 155) rfl))) (notFace_of_selects (args := #[]) (mvT hZ (hw _ (List.mem_of_getElem? (i := 157) rfl)))) (mvT hZ (hw _ (List.mem_of_getElem? (i := 157) rfl))) (mvT hZ (hw _ (List.mem_of_getElem? (i := 156) rfl))) (by decide) (backOf (W := 0) (own_rm_lval l Z a0 hw [] b1 xa T48.heap n0 Z48 F48_value_b1) hZ (hw _ (List.mem_of_getElem? (i := 158) rfl)) (hw _ (List.mem_of_getElem? (i := 82) rfl)) (by decide) (by decide)) q53a q53c (g := (mkF m 115 #[iv p0, .val (.long xa), .second, .val (.long xb), .second, .val (.long xc), .second, iv 3, rv l1, rv k1, rv l1] [(.ref b1)])) rfl (by rw [hml]; rfl) (Steps.refl _) (argsL := []) (rest := []) (lenOf own_pd12 rfl) rfl (by show 2 * 0 + _ ≤ _; exact Nat.le_of_eq rfl) (hb hby at_115) (fun _ _ => ⟨rfl, e52, (by decide : 6 + 0 ≤ _), (by decide : 20 + 0 ≤ _)⟩)
    dsimp only [Pt.U, Pt.locs, Pt.cells, Pt.slots] at X53 l53 y53 z53 st53 hQ53
    subst l53 y53 z53
    obtain ⟨rfl, N53, eh53⟩ := hQ53
    have M53 := Fr.app M51 N53
    refine own_tr st53 ?_
    show own_Go p e below _ T53 (mkF m 118 #[iv p0, .val (.long xa), .second, .val (.long xb), .second, .val (.long xc), .second, iv 3, rv l1, rv k1, rv l1] [(.long xa)])
    refine own_st (fun _ k => XT.lloadN X53.here hx rfl (hb hby at_118) rfl k) ?_
    show own_Go p e below _ T53 (mkF m 119 #[iv p0, .val (.long xa), .second, .val (.long xb), .second, .val (.long xc), .second, iv 3, rv l1, rv k1, rv l1] [(.long xa), (.long xa)])
    refine own_st (fun _ k => XT.lcmp X53.here hx rfl (hb hby at_119) rfl k) ?_
    show own_Go p e below _ T53 (mkF m 120 #[iv p0, .val (.long xa), .second, .val (.long xb), .second, .val (.long xc), .second, iv 3, rv l1, rv k1, rv l1] [(.int (XT.cmpL xa xa))])
    refine own_st (fun _ k => XS.ifYes X53.here hx rfl (pc0 := 120) (pc' := 125) rfl (hb hby at_120) rfl (XT.ll_eq_t rfl) (by decide) (by decide) k) ?_
    show own_Go p e below _ T53 (mkF m 125 #[iv p0, .val (.long xa), .second, .val (.long xb), .second, .val (.long xc), .second, iv 3, rv l1, rv k1, rv l1] [])
    refine own_st (fun _ k => XS.iload X53.here hx rfl (hb hby at_125) rfl k) ?_
    show own_Go p e below _ T53 (mkF m 127 #[iv p0, .val (.long xa), .second, .val (.long xb), .second, .val (.long xc), .second, iv 3, rv l1, rv k1, rv l1] [(.int 3)])
    refine own_st (fun _ k => XT.iconstV X53.here hx rfl (2 : Int32) (hb hby at_127) (by decide) k) ?_
    show own_Go p e below _ T53 (mkF m 128 #[iv p0, .val (.long xa), .second, .val (.long xb), .second, .val (.long xc), .second, iv 3, rv l1, rv k1, rv l1] [(.int 2), (.int 3)])
    refine own_st (fun _ k => XS.icmpNo X53.here hx rfl (hb hby at_128) rfl (XT.ii_lt_f (by decide)) k) ?_
    show own_Go p e below _ T53 (mkF m 131 #[iv p0, .val (.long xa), .second, .val (.long xb), .second, .val (.long xc), .second, iv 3, rv l1, rv k1, rv l1] [])
    refine own_st (fun _ k => XS.aload X53.here hx rfl (hb hby at_131) rfl rfl k) ?_
    show own_Go p e below _ T53 (mkF m 133 #[iv p0, .val (.long xa), .second, .val (.long xb), .second, .val (.long xc), .second, iv 3, rv l1, rv k1, rv l1] [(.ref l1)])
    refine own_st (fun _ k => XT.iconstV X53.here hx rfl (1 : Int32) (hb hby at_133) (by decide) k) ?_
    show own_Go p e below _ T53 (mkF m 134 #[iv p0, .val (.long xa), .second, .val (.long xb), .second, .val (.long xc), .second, iv 3, rv l1, rv k1, rv l1] [(.int 1), (.ref l1)])
    obtain ⟨cq54, kq54, q54a, q54b, q54c⟩ := isOf hZ eh53 E48_l1
    obtain ⟨_, _, ⟨T54, L54, k54, n54⟩, -, X54, ⟨Lc54, hQ54, l54, y54, z54⟩, st54⟩ := X53.interfaceBack hx (xi := (⟨"java/util/List", "get", "(I)Ljava/lang/Object;"⟩ : MethodName)) (y := (⟨"java/util/ArrayList", "get", "(I)Ljava/lang/Object;"⟩ : MethodName)) hown (mvT hZ (hw _ (List.mem_of_getElem? (i := 132) rfl))) (mvT hZ (hw _ (List.mem_of_getElem? (i := 133) rfl))) (mvT hZ (hw _ (List.mem_of_getElem? (i := 134) rfl))) (mvT hZ (hw _ (List.mem_of_getElem? (i := 135) rfl))) (mvT hZ (hw _ (List.mem_of_getElem? (i := 136) rfl))) (mvT hZ (hw _ (List.mem_of_getElem? (i := 137) rfl))) (mvT hZ (hw _ (List.mem_of_getElem? (i := 138) rfl))) (mvT hZ (hw _ (List.mem_of_getElem? (i := 56) rfl))) (by decide) (backOf (W := 0) (own_rm_get l Z a0 hw [] l1 d1 k_d1 (1 : Int32) [(.ref b1), (.ref b2), (.ref b3), .null, .null, .null, .null, .null, .null, .null] b2 (3 : Int32) T48.heap n0 Z48 F48_elementData_l1 V48_d1 (by decide) (by decide) rfl F48_size_l1 (by decide) E48_l1) hZ (hw _ (List.mem_of_getElem? (i := 139) rfl)) (hw _ (List.mem_of_getElem? (i := 2) rfl)) (by decide) (by decide)) q54a q54b q54c (g := (mkF m 134 #[iv p0, .val (.long xa), .second, .val (.long xb), .second, .val (.long xc), .second, iv 3, rv l1, rv k1, rv l1] [(.int 1), (.ref l1)])) rfl (by rw [hml]; rfl) (Steps.refl _) (argsL := [(.int (1 : Int32))]) (rest := []) (lenOf own_pd7 rfl) rfl (by show 2 * 0 + _ ≤ _; exact Nat.le_of_eq rfl) (hb hby at_134) (fun _ _ => ⟨rfl, eh53, (by decide : 6 + 0 ≤ _), (by decide : 20 + 0 ≤ _)⟩)
    dsimp only [Pt.U, Pt.locs, Pt.cells, Pt.slots] at X54 l54 y54 z54 st54 hQ54
    subst l54 y54 z54
    obtain ⟨rfl, N54, eh54⟩ := hQ54
    have M54 := Fr.app M53 N54
    refine own_tr st54 ?_
    show own_Go p e below _ T54 (mkF m 139 #[iv p0, .val (.long xa), .second, .val (.long xb), .second, .val (.long xc), .second, iv 3, rv l1, rv k1, rv l1] [(.ref b2)])
    obtain ⟨T55, X55, e55, st55⟩ := castY X54 hx hZ hown (hw _ (List.mem_of_getElem? (i := 153) rfl)) eh54 (Ins.self E48_b2) (g := (mkF m 139 #[iv p0, .val (.long xa), .second, .val (.long xb), .second, .val (.long xc), .second, iv 3, rv l1, rv k1, rv l1] [(.ref b2)])) rfl rfl (hb hby at_139)
    refine own_st st55 ?_
    show own_Go p e below _ T55 (mkF m 142 #[iv p0, .val (.long xa), .second, .val (.long xb), .second, .val (.long xc), .second, iv 3, rv l1, rv k1, rv l1] [(.ref b2)])
    obtain ⟨cq56, kq56, q56a, q56b, q56c⟩ := isOf hZ e55 E48_b2
    obtain ⟨_, _, ⟨T56, L56, k56, n56⟩, -, X56, ⟨Lc56, hQ56, l56, y56, z56⟩, st56⟩ := X55.virtualBack hx (y := (⟨"java/lang/Long", "longValue", "()J"⟩ : MethodName)) (z := (⟨"java/lang/Long", "longValue", "()J"⟩ : MethodName)) hown (mvT hZ (hw _ (List.mem_of_getElem? (i := 154) rfl))) (mvT hZ (hw _ (List.mem_of_getElem? (i := 155) rfl))) (notFace_of_selects (args := #[]) (mvT hZ (hw _ (List.mem_of_getElem? (i := 157) rfl)))) (mvT hZ (hw _ (List.mem_of_getElem? (i := 157) rfl))) (mvT hZ (hw _ (List.mem_of_getElem? (i := 156) rfl))) (by decide) (backOf (W := 0) (own_rm_lval l Z a0 hw [] b2 xb T48.heap n0 Z48 F48_value_b2) hZ (hw _ (List.mem_of_getElem? (i := 158) rfl)) (hw _ (List.mem_of_getElem? (i := 82) rfl)) (by decide) (by decide)) q56a q56c (g := (mkF m 142 #[iv p0, .val (.long xa), .second, .val (.long xb), .second, .val (.long xc), .second, iv 3, rv l1, rv k1, rv l1] [(.ref b2)])) rfl (by rw [hml]; rfl) (Steps.refl _) (argsL := []) (rest := []) (lenOf own_pd12 rfl) rfl (by show 2 * 0 + _ ≤ _; exact Nat.le_of_eq rfl) (hb hby at_142) (fun _ _ => ⟨rfl, e55, (by decide : 6 + 0 ≤ _), (by decide : 20 + 0 ≤ _)⟩)
    dsimp only [Pt.U, Pt.locs, Pt.cells, Pt.slots] at X56 l56 y56 z56 st56 hQ56
    subst l56 y56 z56
    obtain ⟨rfl, N56, eh56⟩ := hQ56
    have M56 := Fr.app M54 N56
    refine own_tr st56 ?_
    show own_Go p e below _ T56 (mkF m 145 #[iv p0, .val (.long xa), .second, .val (.long xb), .second, .val (.long xc), .second, iv 3, rv l1, rv k1, rv l1] [(.long xb)])
    refine own_st (fun _ k => XT.lloadN X56.here hx rfl (hb hby at_145) rfl k) ?_
    show own_Go p e below _ T56 (mkF m 146 #[iv p0, .val (.long xa), .second, .val (.long xb), .second, .val (.long xc), .second, iv 3, rv l1, rv k1, rv l1] [(.long xb), (.long xb)])
    refine own_st (fun _ k => XT.lcmp X56.here hx rfl (hb hby at_146) rfl k) ?_
    show own_Go p e below _ T56 (mkF m 147 #[iv p0, .val (.long xa), .second, .val (.long xb), .second, .val (.long xc), .second, iv 3, rv l1, rv k1, rv l1] [(.int (XT.cmpL xb xb))])
    refine own_st (fun _ k => XS.ifYes X56.here hx rfl (pc0 := 147) (pc' := 152) rfl (hb hby at_147) rfl (XT.ll_eq_t rfl) (by decide) (by decide) k) ?_
    show own_Go p e below _ T56 (mkF m 152 #[iv p0, .val (.long xa), .second, .val (.long xb), .second, .val (.long xc), .second, iv 3, rv l1, rv k1, rv l1] [])
    refine own_st (fun _ k => XS.iload X56.here hx rfl (hb hby at_152) rfl k) ?_
    show own_Go p e below _ T56 (mkF m 154 #[iv p0, .val (.long xa), .second, .val (.long xb), .second, .val (.long xc), .second, iv 3, rv l1, rv k1, rv l1] [(.int 3)])
    refine own_st (fun _ k => XT.iconstV X56.here hx rfl (3 : Int32) (hb hby at_154) (by decide) k) ?_
    show own_Go p e below _ T56 (mkF m 155 #[iv p0, .val (.long xa), .second, .val (.long xb), .second, .val (.long xc), .second, iv 3, rv l1, rv k1, rv l1] [(.int 3), (.int 3)])
    refine own_st (fun _ k => XS.icmpNo X56.here hx rfl (hb hby at_155) rfl (XT.ii_lt_f (by decide)) k) ?_
    show own_Go p e below _ T56 (mkF m 158 #[iv p0, .val (.long xa), .second, .val (.long xb), .second, .val (.long xc), .second, iv 3, rv l1, rv k1, rv l1] [])
    refine own_st (fun _ k => XS.aload X56.here hx rfl (hb hby at_158) rfl rfl k) ?_
    show own_Go p e below _ T56 (mkF m 160 #[iv p0, .val (.long xa), .second, .val (.long xb), .second, .val (.long xc), .second, iv 3, rv l1, rv k1, rv l1] [(.ref l1)])
    refine own_st (fun _ k => XT.iconstV X56.here hx rfl (2 : Int32) (hb hby at_160) (by decide) k) ?_
    show own_Go p e below _ T56 (mkF m 161 #[iv p0, .val (.long xa), .second, .val (.long xb), .second, .val (.long xc), .second, iv 3, rv l1, rv k1, rv l1] [(.int 2), (.ref l1)])
    obtain ⟨cq57, kq57, q57a, q57b, q57c⟩ := isOf hZ eh56 E48_l1
    obtain ⟨_, _, ⟨T57, L57, k57, n57⟩, -, X57, ⟨Lc57, hQ57, l57, y57, z57⟩, st57⟩ := X56.interfaceBack hx (xi := (⟨"java/util/List", "get", "(I)Ljava/lang/Object;"⟩ : MethodName)) (y := (⟨"java/util/ArrayList", "get", "(I)Ljava/lang/Object;"⟩ : MethodName)) hown (mvT hZ (hw _ (List.mem_of_getElem? (i := 132) rfl))) (mvT hZ (hw _ (List.mem_of_getElem? (i := 133) rfl))) (mvT hZ (hw _ (List.mem_of_getElem? (i := 134) rfl))) (mvT hZ (hw _ (List.mem_of_getElem? (i := 135) rfl))) (mvT hZ (hw _ (List.mem_of_getElem? (i := 136) rfl))) (mvT hZ (hw _ (List.mem_of_getElem? (i := 137) rfl))) (mvT hZ (hw _ (List.mem_of_getElem? (i := 138) rfl))) (mvT hZ (hw _ (List.mem_of_getElem? (i := 56) rfl))) (by decide) (backOf (W := 0) (own_rm_get l Z a0 hw [] l1 d1 k_d1 (2 : Int32) [(.ref b1), (.ref b2), (.ref b3), .null, .null, .null, .null, .null, .null, .null] b3 (3 : Int32) T48.heap n0 Z48 F48_elementData_l1 V48_d1 (by decide) (by decide) rfl F48_size_l1 (by decide) E48_l1) hZ (hw _ (List.mem_of_getElem? (i := 139) rfl)) (hw _ (List.mem_of_getElem? (i := 2) rfl)) (by decide) (by decide)) q57a q57b q57c (g := (mkF m 161 #[iv p0, .val (.long xa), .second, .val (.long xb), .second, .val (.long xc), .second, iv 3, rv l1, rv k1, rv l1] [(.int 2), (.ref l1)])) rfl (by rw [hml]; rfl) (Steps.refl _) (argsL := [(.int (2 : Int32))]) (rest := []) (lenOf own_pd7 rfl) rfl (by show 2 * 0 + _ ≤ _; exact Nat.le_of_eq rfl) (hb hby at_161) (fun _ _ => ⟨rfl, eh56, (by decide : 6 + 0 ≤ _), (by decide : 20 + 0 ≤ _)⟩)
    dsimp only [Pt.U, Pt.locs, Pt.cells, Pt.slots] at X57 l57 y57 z57 st57 hQ57
    subst l57 y57 z57
    obtain ⟨rfl, N57, eh57⟩ := hQ57
    have M57 := Fr.app M56 N57
    refine own_tr st57 ?_
    show own_Go p e below _ T57 (mkF m 166 #[iv p0, .val (.long xa), .second, .val (.long xb), .second, .val (.long xc), .second, iv 3, rv l1, rv k1, rv l1] [(.ref b3)])
    obtain ⟨T58, X58, e58, st58⟩ := castY X57 hx hZ hown (hw _ (List.mem_of_getElem? (i := 153) rfl)) eh57 (Ins.self E48_b3) (g := (mkF m 166 #[iv p0, .val (.long xa), .second, .val (.long xb), .second, .val (.long xc), .second, iv 3, rv l1, rv k1, rv l1] [(.ref b3)])) rfl rfl (hb hby at_166)
    refine own_st st58 ?_
    show own_Go p e below _ T58 (mkF m 169 #[iv p0, .val (.long xa), .second, .val (.long xb), .second, .val (.long xc), .second, iv 3, rv l1, rv k1, rv l1] [(.ref b3)])
    obtain ⟨cq59, kq59, q59a, q59b, q59c⟩ := isOf hZ e58 E48_b3
    obtain ⟨_, _, ⟨T59, L59, k59, n59⟩, -, X59, ⟨Lc59, hQ59, l59, y59, z59⟩, st59⟩ := X58.virtualBack hx (y := (⟨"java/lang/Long", "longValue", "()J"⟩ : MethodName)) (z := (⟨"java/lang/Long", "longValue", "()J"⟩ : MethodName)) hown (mvT hZ (hw _ (List.mem_of_getElem? (i := 154) rfl))) (mvT hZ (hw _ (List.mem_of_getElem? (i := 155) rfl))) (notFace_of_selects (args := #[]) (mvT hZ (hw _ (List.mem_of_getElem? (i := 157) rfl)))) (mvT hZ (hw _ (List.mem_of_getElem? (i := 157) rfl))) (mvT hZ (hw _ (List.mem_of_getElem? (i := 156) rfl))) (by decide) (backOf (W := 0) (own_rm_lval l Z a0 hw [] b3 xc T48.heap n0 Z48 F48_value_b3) hZ (hw _ (List.mem_of_getElem? (i := 158) rfl)) (hw _ (List.mem_of_getElem? (i := 82) rfl)) (by decide) (by decide)) q59a q59c (g := (mkF m 169 #[iv p0, .val (.long xa), .second, .val (.long xb), .second, .val (.long xc), .second, iv 3, rv l1, rv k1, rv l1] [(.ref b3)])) rfl (by rw [hml]; rfl) (Steps.refl _) (argsL := []) (rest := []) (lenOf own_pd12 rfl) rfl (by show 2 * 0 + _ ≤ _; exact Nat.le_of_eq rfl) (hb hby at_169) (fun _ _ => ⟨rfl, e58, (by decide : 6 + 0 ≤ _), (by decide : 20 + 0 ≤ _)⟩)
    dsimp only [Pt.U, Pt.locs, Pt.cells, Pt.slots] at X59 l59 y59 z59 st59 hQ59
    subst l59 y59 z59
    obtain ⟨rfl, N59, eh59⟩ := hQ59
    have M59 := Fr.app M57 N59
    refine own_tr st59 ?_
    show own_Go p e below _ T59 (mkF m 172 #[iv p0, .val (.long xa), .second, .val (.long xb), .second, .val (.long xc), .second, iv 3, rv l1, rv k1, rv l1] [(.long xc)])
    refine own_st (fun _ k => XT.lload X59.here hx rfl (hb hby at_172) rfl k) ?_
    show own_Go p e below _ T59 (mkF m 174 #[iv p0, .val (.long xa), .second, .val (.long xb), .second, .val (.long xc), .second, iv 3, rv l1, rv k1, rv l1] [(.long xc), (.long xc)])
    refine own_st (fun _ k => XT.lcmp X59.here hx rfl (hb hby at_174) rfl k) ?_
    show own_Go p e below _ T59 (mkF m 175 #[iv p0, .val (.long xa), .second, .val (.long xb), .second, .val (.long xc), .second, iv 3, rv l1, rv k1, rv l1] [(.int (XT.cmpL xc xc))])
    refine own_st (fun _ k => XS.ifYes X59.here hx rfl (pc0 := 175) (pc' := 180) rfl (hb hby at_175) rfl (XT.ll_eq_t rfl) (by decide) (by decide) k) ?_
    show own_Go p e below _ T59 (mkF m 180 #[iv p0, .val (.long xa), .second, .val (.long xb), .second, .val (.long xc), .second, iv 3, rv l1, rv k1, rv l1] [])
    refine own_st (fun _ k => XS.aload X59.here hx rfl (hb hby at_180) rfl rfl k) ?_
    show own_Go p e below _ T59 (mkF m 182 #[iv p0, .val (.long xa), .second, .val (.long xb), .second, .val (.long xc), .second, iv 3, rv l1, rv k1, rv l1] [(.ref k1)])
    obtain ⟨cq60, kq60, q60a, q60b, q60c⟩ := isOf hZ eh59 Ek48
    obtain ⟨_, _, ⟨T60, L60, k60, n60⟩, -, X60, ⟨Lc60, hQ60, l60, y60, z60⟩, st60⟩ := X59.virtualBack hx (y := (⟨"com/example/limpet/limpet/RedisBackend$Acknowledged", "asked", "()I"⟩ : MethodName)) (z := (⟨"com/example/limpet/limpet/RedisBackend$Acknowledged", "asked", "()I"⟩ : MethodName)) hown (mvT hZ (hw _ (List.mem_of_getElem? (i := 60) rfl))) (mvT hZ (hw _ (List.mem_of_getElem? (i := 61) rfl))) (notFace_of_selects (args := #[]) (mvT hZ (hw _ (List.mem_of_getElem? (i := 63) rfl)))) (mvT hZ (hw _ (List.mem_of_getElem? (i := 63) rfl))) (mvT hZ (hw _ (List.mem_of_getElem? (i := 62) rfl))) (by decide) (backOf (W := 0) (own_rm_gask l Z a0 hw [] k1 T48.heap n0 Z48 Fa48) hZ (hw _ (List.mem_of_getElem? (i := 64) rfl)) (hw _ (List.mem_of_getElem? (i := 28) rfl)) (by decide) (by decide)) q60a q60c (g := (mkF m 182 #[iv p0, .val (.long xa), .second, .val (.long xb), .second, .val (.long xc), .second, iv 3, rv l1, rv k1, rv l1] [(.ref k1)])) rfl (by rw [hml]; rfl) (Steps.refl _) (argsL := []) (rest := []) (lenOf own_pd11 rfl) rfl (by show 2 * 0 + _ ≤ _; exact Nat.le_of_eq rfl) (hb hby at_182) (fun _ _ => ⟨rfl, eh59, (by decide : 6 + 0 ≤ _), (by decide : 20 + 0 ≤ _)⟩)
    dsimp only [Pt.U, Pt.locs, Pt.cells, Pt.slots] at X60 l60 y60 z60 st60 hQ60
    subst l60 y60 z60
    obtain ⟨rfl, N60, eh60⟩ := hQ60
    have M60 := Fr.app M59 N60
    refine own_tr st60 ?_
    show own_Go p e below _ T60 (mkF m 185 #[iv p0, .val (.long xa), .second, .val (.long xb), .second, .val (.long xc), .second, iv 3, rv l1, rv k1, rv l1] [(.int 0)])
    refine own_st (fun _ k => XS.ifNo X60.here hx rfl (hb hby at_185) rfl (XT.i0_ne_f rfl) k) ?_
    show own_Go p e below _ T60 (mkF m 188 #[iv p0, .val (.long xa), .second, .val (.long xb), .second, .val (.long xc), .second, iv 3, rv l1, rv k1, rv l1] [])
    refine own_st (fun _ k => XS.aload X60.here hx rfl (hb hby at_188) rfl rfl k) ?_
    show own_Go p e below _ T60 (mkF m 190 #[iv p0, .val (.long xa), .second, .val (.long xb), .second, .val (.long xc), .second, iv 3, rv l1, rv k1, rv l1] [(.ref k1)])
    obtain ⟨cq61, kq61, q61a, q61b, q61c⟩ := isOf hZ eh60 Ek48
    obtain ⟨_, _, ⟨T61, L61, k61, n61⟩, -, X61, ⟨Lc61, hQ61, l61, y61, z61⟩, st61⟩ := X60.virtualBack hx (y := (⟨"com/example/limpet/limpet/RedisBackend$Acknowledged", "acknowledged", "()J"⟩ : MethodName)) (z := (⟨"com/example/limpet/limpet/RedisBackend$Acknowledged", "acknowledged", "()J"⟩ : MethodName)) hown (mvT hZ (hw _ (List.mem_of_getElem? (i := 65) rfl))) (mvT hZ (hw _ (List.mem_of_getElem? (i := 66) rfl))) (notFace_of_selects (args := #[]) (mvT hZ (hw _ (List.mem_of_getElem? (i := 68) rfl)))) (mvT hZ (hw _ (List.mem_of_getElem? (i := 68) rfl))) (mvT hZ (hw _ (List.mem_of_getElem? (i := 67) rfl))) (by decide) (backOf (W := 0) (own_rm_gack l Z a0 hw [] k1 T48.heap n0 Z48 Fc48) hZ (hw _ (List.mem_of_getElem? (i := 69) rfl)) (hw _ (List.mem_of_getElem? (i := 28) rfl)) (by decide) (by decide)) q61a q61c (g := (mkF m 190 #[iv p0, .val (.long xa), .second, .val (.long xb), .second, .val (.long xc), .second, iv 3, rv l1, rv k1, rv l1] [(.ref k1)])) rfl (by rw [hml]; rfl) (Steps.refl _) (argsL := []) (rest := []) (lenOf own_pd12 rfl) rfl (by show 2 * 0 + _ ≤ _; exact Nat.le_of_eq rfl) (hb hby at_190) (fun _ _ => ⟨rfl, eh60, (by decide : 6 + 0 ≤ _), (by decide : 20 + 0 ≤ _)⟩)
    dsimp only [Pt.U, Pt.locs, Pt.cells, Pt.slots] at X61 l61 y61 z61 st61 hQ61
    subst l61 y61 z61
    obtain ⟨rfl, N61, eh61⟩ := hQ61
    have M61 := Fr.app M60 N61
    refine own_tr st61 ?_
    show own_Go p e below _ T61 (mkF m 193 #[iv p0, .val (.long xa), .second, .val (.long xb), .second, .val (.long xc), .second, iv 3, rv l1, rv k1, rv l1] [(.long 0)])
    refine own_st (fun _ k => XT.lconstV X61.here hx rfl (0 : Int64) (hb hby at_193) (by decide) k) ?_
    show own_Go p e below _ T61 (mkF m 194 #[iv p0, .val (.long xa), .second, .val (.long xb), .second, .val (.long xc), .second, iv 3, rv l1, rv k1, rv l1] [(.long 0), (.long 0)])
    refine own_st (fun _ k => XT.lcmp X61.here hx rfl (hb hby at_194) rfl k) ?_
    show own_Go p e below _ T61 (mkF m 195 #[iv p0, .val (.long xa), .second, .val (.long xb), .second, .val (.long xc), .second, iv 3, rv l1, rv k1, rv l1] [(.int (XT.cmpL 0 0))])
    refine own_st (fun _ k => XS.ifNo X61.here hx rfl (hb hby at_195) rfl (XT.ll_ne_f rfl) k) ?_
    show own_Go p e below _ T61 (mkF m 198 #[iv p0, .val (.long xa), .second, .val (.long xb), .second, .val (.long xc), .second, iv 3, rv l1, rv k1, rv l1] [])
    refine own_st (fun _ k => XS.aload X61.here hx rfl (hb hby at_198) rfl rfl k) ?_
    show own_Go p e below _ T61 (mkF m 200 #[iv p0, .val (.long xa), .second, .val (.long xb), .second, .val (.long xc), .second, iv 3, rv l1, rv k1, rv l1] [(.ref k1)])
    obtain ⟨cq62, kq62, q62a, q62b, q62c⟩ := isOf hZ eh61 Ek48
    obtain ⟨_, _, ⟨T62, L62, k62, n62⟩, -, X62, ⟨Lc62, hQ62, l62, y62, z62⟩, st62⟩ := X61.virtualBack hx (y := (⟨"com/example/limpet/limpet/RedisBackend$Acknowledged", "failure", "()Ljava/lang/RuntimeException;"⟩ : MethodName)) (z := (⟨"com/example/limpet/limpet/RedisBackend$Acknowledged", "failure", "()Ljava/lang/RuntimeException;"⟩ : MethodName)) hown (mvT hZ (hw _ (List.mem_of_getElem? (i := 70) rfl))) (mvT hZ (hw _ (List.mem_of_getElem? (i := 71) rfl))) (notFace_of_selects (args := #[]) (mvT hZ (hw _ (List.mem_of_getElem? (i := 73) rfl)))) (mvT hZ (hw _ (List.mem_of_getElem? (i := 73) rfl))) (mvT hZ (hw _ (List.mem_of_getElem? (i := 72) rfl))) (by decide) (backOf (W := 0) (own_rm_gfail l Z a0 hw [] k1 T48.heap n0 Z48 Fx48) hZ (hw _ (List.mem_of_getElem? (i := 74) rfl)) (hw _ (List.mem_of_getElem? (i := 28) rfl)) (by decide) (by decide)) q62a q62c (g := (mkF m 200 #[iv p0, .val (.long xa), .second, .val (.long xb), .second, .val (.long xc), .second, iv 3, rv l1, rv k1, rv l1] [(.ref k1)])) rfl (by rw [hml]; rfl) (Steps.refl _) (argsL := []) (rest := []) (lenOf own_pd13 rfl) rfl (by show 2 * 0 + _ ≤ _; exact Nat.le_of_eq rfl) (hb hby at_200) (fun _ _ => ⟨rfl, eh61, (by decide : 6 + 0 ≤ _), (by decide : 20 + 0 ≤ _)⟩)
    dsimp only [Pt.U, Pt.locs, Pt.cells, Pt.slots] at X62 l62 y62 z62 st62 hQ62
    subst l62 y62 z62
    obtain ⟨rfl, N62, eh62⟩ := hQ62
    have M62 := Fr.app M61 N62
    refine own_tr st62 ?_
    show own_Go p e below _ T62 (mkF m 203 #[iv p0, .val (.long xa), .second, .val (.long xb), .second, .val (.long xc), .second, iv 3, rv l1, rv k1, rv l1] [.null])
    refine own_st (fun _ k => XT.ifnonnullNo X62.here hx rfl (hb hby at_203) rfl k) ?_
    show own_Go p e below _ T62 (mkF m 206 #[iv p0, .val (.long xa), .second, .val (.long xb), .second, .val (.long xc), .second, iv 3, rv l1, rv k1, rv l1] [])
    refine own_st (fun _ k => XS.aload X62.here hx rfl (hb hby at_206) rfl rfl k) ?_
    show own_Go p e below _ T62 (mkF m 208 #[iv p0, .val (.long xa), .second, .val (.long xb), .second, .val (.long xc), .second, iv 3, rv l1, rv k1, rv l1] [(.ref k1)])
    obtain ⟨cq63, kq63, q63a, q63b, q63c⟩ := isOf hZ eh62 Ek48
    obtain ⟨_, _, ⟨T63, L63, k63, n63⟩, -, X63, ⟨Lc63, hQ63, l63, y63, z63⟩, st63⟩ := X62.virtualBack hx (y := (⟨"com/example/limpet/limpet/RedisBackend$Acknowledged", "counts", "()Z"⟩ : MethodName)) (z := (⟨"com/example/limpet/limpet/RedisBackend$Acknowledged", "counts", "()Z"⟩ : MethodName)) hown (mvT hZ (hw _ (List.mem_of_getElem? (i := 75) rfl))) (mvT hZ (hw _ (List.mem_of_getElem? (i := 76) rfl))) (notFace_of_selects (args := #[]) (mvT hZ (hw _ (List.mem_of_getElem? (i := 78) rfl)))) (mvT hZ (hw _ (List.mem_of_getElem? (i := 78) rfl))) (mvT hZ (hw _ (List.mem_of_getElem? (i := 77) rfl))) (by decide) (backOf (W := 0) (own_rm_gcnt l Z a0 hw [] k1 T48.heap n0 Z48 Fa48) hZ (hw _ (List.mem_of_getElem? (i := 79) rfl)) (hw _ (List.mem_of_getElem? (i := 28) rfl)) (by decide) (by decide)) q63a q63c (g := (mkF m 208 #[iv p0, .val (.long xa), .second, .val (.long xb), .second, .val (.long xc), .second, iv 3, rv l1, rv k1, rv l1] [(.ref k1)])) rfl (by rw [hml]; rfl) (Steps.refl _) (argsL := []) (rest := []) (lenOf own_pd14 rfl) rfl (by show 2 * 0 + _ ≤ _; exact Nat.le_of_eq rfl) (hb hby at_208) (fun _ _ => ⟨rfl, eh62, (by decide : 6 + 0 ≤ _), (by decide : 20 + 0 ≤ _)⟩)
    dsimp only [Pt.U, Pt.locs, Pt.cells, Pt.slots] at X63 l63 y63 z63 st63 hQ63
    subst l63 y63 z63
    obtain ⟨rfl, N63, eh63⟩ := hQ63
    have M63 := Fr.app M62 N63
    refine own_tr st63 ?_
    show own_Go p e below _ T63 (mkF m 211 #[iv p0, .val (.long xa), .second, .val (.long xb), .second, .val (.long xc), .second, iv 3, rv l1, rv k1, rv l1] [(.int 1)])
    refine own_st (fun _ k => XS.ifNo X63.here hx rfl (hb hby at_211) rfl (XT.i0_eq_f (by decide)) k) ?_
    show own_Go p e below _ T63 (mkF m 214 #[iv p0, .val (.long xa), .second, .val (.long xb), .second, .val (.long xc), .second, iv 3, rv l1, rv k1, rv l1] [])
    refine own_st (fun _ k => XT.iconstV X63.here hx rfl (1 : Int32) (hb hby at_214) (by decide) k) ?_
    show own_Go p e below _ T63 (mkF m 215 #[iv p0, .val (.long xa), .second, .val (.long xb), .second, .val (.long xc), .second, iv 3, rv l1, rv k1, rv l1] [(.int 1)])
    refine own_st (fun _ k => XS.goto X63.here hx rfl (pc0 := 215) (pc' := 219) rfl (hb hby at_215) (by decide) (by decide) k) ?_
    show own_Go p e below _ T63 (mkF m 219 #[iv p0, .val (.long xa), .second, .val (.long xb), .second, .val (.long xc), .second, iv 3, rv l1, rv k1, rv l1] [(.int 1)])
    refine own_retN X63 hx Bd.notSynchronized (t := .boolean) Bd.returns (by simp) (hb hby at_219) (by decide) (by decide) ?_
    rw [eh63]
    exact ⟨rfl, M63⟩
theorem own_cache_start {args : Array Value} {Z : State} {w : Addr} {cl : Cell} (ev : (Term.static "java/lang/Long$LongCache" "cache" "[Ljava/lang/Long;").eval args Z none [] Z = some (.ref w)) (A : Arr Z Z.heap w cl (.object "java/lang/Long")) (hs : cl.slots.size < 2 ^ 31) (hl : cl.slots.size.toInt32 = (256 : Int32))
    (h : (Cond.all (Term.static "java/lang/Long$LongCache" "cache" "[Ljava/lang/Long;") (Cond.and (Cond.exactly (Term.elem (Term.static "java/lang/Long$LongCache" "cache" "[Ljava/lang/Long;") (Term.index 0)) "java/lang/Long") (Cond.eq (Term.field (Term.elem (Term.static "java/lang/Long$LongCache" "cache" "[Ljava/lang/Long;") (Term.index 0)) "java/lang/Long" "value" "J") (Term.op1 Unary.i2l (Term.sub (Term.index 0) (Term.int 128)))))).value args Z none Z [] = some true) : own_cache Z w := by
  have hsz : cl.slots.size = 256 := by
    have e1 : (cl.slots.size.toInt32).toInt = cl.slots.size := len_toInt hs
    rw [hl] at e1
    have e2 : (256 : Int32).toInt = 256 := by decide
    omega
  have hc : Z.arrayAt? w = some cl := A.fin (Vm.Alike.refl _)
  have hall := Cond.all_elim ev hc h
  refine ⟨cl, A, hsz, fun i hi => ?_⟩
  obtain ⟨h1, h2⟩ := and_e (hall i (by omega))
  obtain ⟨b, eb⟩ := exa_v h1
  have ev' : (Term.static "java/lang/Long$LongCache" "cache" "[Ljava/lang/Long;").eval args Z none [i] Z = some (.ref w) := ev
  have ei : (Term.index 0).eval args Z none [i] Z = some (.int i.toInt32) := rfl
  obtain ⟨hin, hat⟩ := elem_in eb ev' ei A.1
  have en : i.toInt32.toNatClampNeg = i := by
    show (i.toInt32).toInt.toNat = i
    rw [len_toInt (by omega)]; rfl
  rw [en] at hat
  refine ⟨b, hat, exa_at eb h1, Fld.start ?_⟩
  have ef : (Term.field (Term.elem (Term.static "java/lang/Long$LongCache" "cache" "[Ljava/lang/Long;") (Term.index 0)) "java/lang/Long" "value" "J").eval args Z none [i] Z = Z.fieldOf? b "java/lang/Long" "value" "J" := fld_at eb
  obtain ⟨x, y, e1, e2, -, -⟩ := cmp_v (Or.inl h2)
  have e3 : y = .long (i.toInt32 - (128 : Int32)).toInt64 := by
    have e4 : (Term.op1 Unary.i2l (Term.sub (Term.index 0) (Term.int 128))).eval args Z none [i] Z = some (.long (i.toInt32 - (128 : Int32)).toInt64) := rfl
    exact Option.some.inj (e2.symm.trans e4)
  subst e3
  rw [ef] at e1
  have e5 : x = .long (i.toInt32 - (128 : Int32)).toInt64 := by
    rw [← ef] at e1
    cases x <;> simp [Cond.value, e1, e2] at h2 ⊢
    exact h2
  rw [e1, e5]
set_option maxRecDepth 65536 in
set_option maxHeartbeats 40000000 in
theorem comes_1 {Post : Tables → Env → Array Value → State → Outcome → State → Prop} (hpost : ∀ tb e args s v u, (limb_1_1.after args s (.returned v) u = true ∧ limb_1_2.after args s (.returned v) u = true ∧ True) → FrameEnd s (.returned v) u (Jvm.fieldLocs frame_1_writes args s ++ Jvm.arrayLocs frame_1_arrays args s ++ Jvm.staticLocs frame_1_statics s) 24 128 → Post tb e args s (.returned v) u) :
    ArmFor flags0 classFile x code maxLocals ret World_1 tables_1 room_1 Calls_1 rest_1 Pre_1 Post := by
  intro l hfl _ _ p e ha hc hk s m args below hf hA hF happ hP
  obtain ⟨hcalls, hrest, hpre⟩ := hP
  obtain ⟨-, -, -, hnamed, -, -, -, hat⟩ := (Spec.applies_iff hf).mp happ
  obtain ⟨hg, hn⟩ := and_e (Cond.before_iff.mp (show (Jvm.Cond.and given_1 narrow_1).before args s = true from hpre))
  obtain ⟨gl0, gr0⟩ := and_e hg
  obtain ⟨gl1, gr1⟩ := and_e gr0
  obtain ⟨gl2, gr2⟩ := and_e gr1
  obtain ⟨gl3, gr3⟩ := and_e gr2
  obtain ⟨w0, w1, w2, w3, rfl⟩ : ∃ w0 w1 w2 w3 : Value, args = #[w0, w1, w2, w3] := by
    have hs : args.size = 4 := by simpa [Cond.value, given_1] using gl0
    obtain ⟨L⟩ := args
    match L, hs with
    | [w0, w1, w2, w3], _ => exact ⟨w0, w1, w2, w3, rfl⟩
  have hw := fun d (hd : d ∈ tables_1) => atoms_spec (ws := Jvm.Cond.code x code maxLocals ret :: tables_1) hat d (List.mem_cons_of_mem _ hd)
  have hfit : Fit s := fun {y c} hc i hi => by
    obtain ⟨ha, rfl⟩ := Array.getElem?_eq_some_iff.mp hc
    have q := List.all_eq_true.mp ((Array.all_eq_true_iff_forall_mem.mp hF) _ (Array.getElem_mem ha)) i (List.mem_range.mpr hi)
    simpa [Array.getElem?_eq_getElem hi] using q
  obtain ⟨hsets, hown0⟩ := atoms_of _ (rest_1_c_eq ▸ (show rest_1_c.before _ s = true from hrest))
  have hr0 := Cond.before_iff.mp hown0
  obtain ⟨i0, ei0⟩ := is_v gl1
  obtain rfl : w0 = (.int i0) := Option.some.inj ei0
  obtain ⟨i1, ei1⟩ := isL_v gl2
  obtain rfl : w1 = (.long i1) := Option.some.inj ei1
  obtain ⟨i2, ei2⟩ := isL_v gl3
  obtain rfl : w2 = (.long i2) := Option.some.inj ei2
  obtain ⟨i3, ei3⟩ := isL_v gr3
  obtain rfl : w3 = (.long i3) := Option.some.inj ei3
  obtain ⟨w_D, ev_D⟩ := arr_v (Cond.before_iff.mp (hsets _ (List.mem_of_getElem? (i := 6) rfl)))
  have S_D : Sta s s.heap "java/util/ArrayList" "DEFAULTCAPACITY_EMPTY_ELEMENTDATA" "[Ljava/lang/Object;" (.ref w_D) := Sta.start ev_D (Or.inr ⟨(hw _ (List.mem_of_getElem? (i := 2) rfl)), hsets _ (List.mem_of_getElem? (i := 2) rfl)⟩)
  obtain ⟨cD, AcD, szD, lnD⟩ := own_arr_start ev_D (Cond.before_iff.mp (hsets _ (List.mem_of_getElem? (i := 6) rfl))) (Cond.before_iff.mp (hsets _ (List.mem_of_getElem? (i := 8) rfl)))
  have V_D : Arv s s.heap w_D cD.cls (.object "java/lang/Object") (0 : Int32) [] .null := Arv.start hfit AcD szD lnD (by decide) rfl trivial
  obtain ⟨w_C, ev_C⟩ := arr_v (Cond.before_iff.mp (hsets _ (List.mem_of_getElem? (i := 11) rfl)))
  have S_C : Sta s s.heap "java/lang/Long$LongCache" "cache" "[Ljava/lang/Long;" (.ref w_C) := Sta.start ev_C (Or.inr ⟨(hw _ (List.mem_of_getElem? (i := 87) rfl)), hsets _ (List.mem_of_getElem? (i := 9) rfl)⟩)
  obtain ⟨cC, AcC, szC, lnC⟩ := own_arr_start ev_C (Cond.before_iff.mp (hsets _ (List.mem_of_getElem? (i := 11) rfl))) (Cond.before_iff.mp (hsets _ (List.mem_of_getElem? (i := 13) rfl)))
  have hcache : own_cache s w_C := own_cache_start ev_C AcC szC lnC (Cond.before_iff.mp (hsets _ (List.mem_of_getElem? (i := 14) rfl)))
  obtain ⟨n, o, h1, h2, h3, _, L, rfl, ⟨rfl, N⟩, hq⟩ := own_rm_law l s _ hw tables_1 i0 i1 i2 i3 w_D cD.cls w_C s.heap s.heap.size (Nat.le_refl _) (Old.start s) S_D V_D S_C hcache p e ha hc hk s m _ below hf ((Spec.applies_iff_loose hf).mp happ).1 ⟨rfl, State.Warmed39.refl s, rfl⟩ trivial
  refine ⟨n, _, h1, h2, h3, hpost _ _ _ _ _ _ ⟨Cond.after_iff.mpr rfl, Cond.after_iff.mpr (eq_i res_at (Term.int_eval (1)) rfl), trivial⟩ ⟨hq.1, hq.2.1, (hq.2.2.sift fun y hy => Or.inr (N y hy)).mono (by decide) (by decide)⟩⟩
theorem main_1_1 : Claimed_1_1 := comes_1 fun _ _ _ _ _ _ h hF => ⟨h.1, hF⟩
theorem main_1_2 : Claimed_1_2 := comes_1 fun _ _ _ _ _ _ h hF => ⟨h.2.1, hF⟩
end Jvm.Pilot.@@N@@
namespace Jvm.Pilot.@@N@@
open Jvm Jvm.ClassFile Sem Op Lib Jvm.Free Jvm.Stand Jvm.Pilot.@@N@@.Jvm.D
/-! MADE BY PROGRAM (witnessworld.py) out of the Statement's table words and the real class files: 28 classes; the members and pool entries that the words name. The judged class is class 1, her method 1. -/
namespace start1
open Jvm.ClassFile
def u (s : String) : CpInfo := .utf8 (stringToUtf16 s)
/-- a pool by its gaps: so many unusable entries, then the entry; so many at the end -/
def gap : Nat → List CpInfo → List CpInfo
  | 0, r => r
  | n + 1, r => .unusable :: gap n r
def poolList (es : List (Nat × CpInfo)) (last : Nat) : List CpInfo := es.foldr (fun e r => gap e.1 (e.2 :: r)) (gap last [])
def pool (es : List (Nat × CpInfo)) (last : Nat) : Array CpInfo := ⟨poolList es last⟩
def fileOf (pool : Array CpInfo) (this : Nat) (attrs : Array Attribute := #[]) (ms : Array MethodInfo := #[]) (fl : Nat := 33) (sup : Nat := 0) (ifs : Array Nat := #[]) (fds : Array FieldInfo := #[]) : ClassFile where
  minorVersion := 0
  majorVersion := 65
  constantPool := pool
  accessFlags := fl
  thisClass := this
  superClass := sup
  interfaces := ifs
  fields := fds
  methods := ms
  attributes := attrs
def plain (name : String) (sup : Option ClassId) : Class where
  name := name
  kind := .ordinary
  loader := none
  accessFlags := 33
  super := sup
  interfaces := #[]
  cf := none
  fields := #[]
  methods := #[]
  instanceTypes := #[]
  staticTypes := #[]
  resolved := #[]
  callSites := []
  init := .initialized
  statics := none
  mirror := none

def pool0 : Array CpInfo := pool [(5, u "<init>"), (0, u "()V"), (1, .class_ 10), (1, u "java/lang/Object")] 113

def k0c0 : Code := { maxStack := 0, maxLocals := 1, code := object_method_1_code, exceptionTable := #[], attributes := #[] }
def k0m0 : Method := { name := "<init>", desc := "()V", sig := { parameters := [], returnType := none }, accessFlags := 1, code := some k0c0 }
/-- java/lang/Object -/
def k0 : Class := { plain "java/lang/Object" none with
  accessFlags := 33
  interfaces := #[]
  cf := some (fileOf pool0 8 #[] #[{ accessFlags := 1, nameIndex := 5, descriptorIndex := 6, attributes := #[] }] 33 0 #[] #[])
  fields := #[]
  methods := #[k0m0]
  instanceTypes := #[]
  staticTypes := #[]
  resolved := Array.replicate 124 none
  statics := none }

def pool1 : Array CpInfo := pool [(2, .class_ 4), (0, .nameAndType 5 6), (0, u "java/lang/Object"), (0, u "<init>"), (0, u "()V"), (0, .class_ 8), (0, u "java/util/ArrayList"), (0, .methodref 7 3), (0, .methodref 11 12), (0, .class_ 13), (0, .nameAndType 14 15), (0, u "java/lang/Long"), (0, u "valueOf"), (0, u "(J)Ljava/lang/Long;"), (0, .methodref 7 17), (0, .nameAndType 18 19), (0, u "add"), (0, u "(Ljava/lang/Object;)Z"), (0, .methodref 21 22), (0, .class_ 23), (0, .nameAndType 24 25), (0, u "com/example/limpet/limpet/RedisBackend$Acknowledged"), (0, u "notAsked"), (0, u "(Ljava/util/List;)Lcom/example/limpet/limpet/RedisBackend$Acknowledged;"), (0, .methodref 21 27), (0, .nameAndType 28 29), (0, u "reply"), (0, u "()Ljava/util/List;"), (0, .interfaceMethodref 31 32), (0, .class_ 33), (0, .nameAndType 34 35), (0, u "java/util/List"), (0, u "size"), (0, u "()I"), (0, .interfaceMethodref 31 37), (0, .nameAndType 38 39), (0, u "get"), (0, u "(I)Ljava/lang/Object;"), (0, .methodref 11 41), (0, .nameAndType 42 43), (0, u "longValue"), (0, u "()J"), (0, .methodref 21 45), (0, .nameAndType 46 35), (0, u "asked"), (0, .methodref 21 48), (0, .nameAndType 49 43), (0, u "acknowledged"), (0, .methodref 21 51), (0, .nameAndType 52 53), (0, u "failure"), (0, u "()Ljava/lang/RuntimeException;"), (0, .methodref 21 55), (0, .nameAndType 56 57), (0, u "counts"), (0, u "()Z"), (0, .class_ 59), (0, u "com/example/limpet/limpet/AcknowledgedNotAskedPinLaw"), (2, u "law"), (0, u "(IJJJ)Z")] 7

def k1m0 : Method := { name := "<init>", desc := "()V", sig := { parameters := [], returnType := none }, accessFlags := 1, code := none }
def k1c1 : Code := { maxStack := 4, maxLocals := 11, code := code, exceptionTable := #[], attributes := #[] }
def k1m1 : Method := { name := "law", desc := "(IJJJ)Z", sig := { parameters := [.int, .long, .long, .long], returnType := some .boolean }, accessFlags := 9, code := some k1c1 }
/-- com/example/limpet/limpet/AcknowledgedNotAskedPinLaw -/
def k1 : Class := { plain "com/example/limpet/limpet/AcknowledgedNotAskedPinLaw" (some 0) with
  accessFlags := 49
  interfaces := #[]
  cf := some (fileOf pool1 58 #[] #[{ accessFlags := 1, nameIndex := 5, descriptorIndex := 6, attributes := #[] }, { accessFlags := 9, nameIndex := 62, descriptorIndex := 63, attributes := #[] }] 49 2 #[] #[])
  fields := #[]
  methods := #[k1m0, k1m1]
  instanceTypes := #[]
  staticTypes := #[]
  resolved := Array.replicate 71 none
  statics := none }

def pool2 : Array CpInfo := pool [(8, .class_ 10), (1, u "java/lang/Iterable"), (24, .class_ 36), (0, u "java/lang/Object")] 25

/-- java/lang/Iterable -/
def k2 : Class := { plain "java/lang/Iterable" (some 0) with
  accessFlags := 1537
  interfaces := #[]
  cf := some (fileOf pool2 8 #[] #[] 1537 35 #[] #[])
  fields := #[]
  methods := #[]
  instanceTypes := #[]
  staticTypes := #[]
  resolved := Array.replicate 62 none
  statics := none }

def pool3 : Array CpInfo := pool [(10, .class_ 12), (1, u "java/util/Collection"), (47, .class_ 61), (0, u "java/lang/Object"), (0, .class_ 63), (0, u "java/lang/Iterable")] 51

/-- java/util/Collection -/
def k3 : Class := { plain "java/util/Collection" (some 0) with
  accessFlags := 1537
  interfaces := #[2]
  cf := some (fileOf pool3 10 #[] #[] 1537 60 #[62] #[])
  fields := #[]
  methods := #[]
  instanceTypes := #[]
  staticTypes := #[]
  resolved := Array.replicate 115 none
  statics := none }

def pool4 : Array CpInfo := pool [(1, .methodref 2 3), (0, .class_ 4), (0, .nameAndType 5 6), (0, u "java/lang/Object"), (0, u "<init>"), (0, u "()V"), (1, .class_ 10), (1, u "java/util/AbstractCollection"), (66, .class_ 78), (0, u "java/util/Collection")] 81

def k4c0 : Code := { maxStack := 1, maxLocals := 1, code := jdk_22_method_1_code, exceptionTable := #[], attributes := #[] }
def k4m0 : Method := { name := "<init>", desc := "()V", sig := { parameters := [], returnType := none }, accessFlags := 4, code := some k4c0 }
/-- java/util/AbstractCollection -/
def k4 : Class := { plain "java/util/AbstractCollection" (some 0) with
  accessFlags := 1057
  interfaces := #[3]
  cf := some (fileOf pool4 8 #[] #[{ accessFlags := 4, nameIndex := 5, descriptorIndex := 6, attributes := #[] }] 1057 2 #[77] #[])
  fields := #[]
  methods := #[k4m0]
  instanceTypes := #[]
  staticTypes := #[]
  resolved := Array.replicate 160 none
  statics := none }

def pool5 : Array CpInfo := pool [(8, .class_ 10), (1, u "java/util/SequencedCollection"), (15, .class_ 27), (0, u "java/lang/Object"), (0, .class_ 29), (0, u "java/util/Collection")] 27

/-- java/util/SequencedCollection -/
def k5 : Class := { plain "java/util/SequencedCollection" (some 0) with
  accessFlags := 1537
  interfaces := #[3]
  cf := some (fileOf pool5 8 #[] #[] 1537 26 #[28] #[])
  fields := #[]
  methods := #[]
  instanceTypes := #[]
  staticTypes := #[]
  resolved := Array.replicate 57 none
  statics := none }

def pool6 : Array CpInfo := pool [(8, .class_ 10), (1, u "java/util/List"), (64, u "get"), (0, u "(I)Ljava/lang/Object;"), (2, u "size"), (0, u "()I"), (22, .class_ 104), (0, u "java/lang/Object"), (15, .class_ 121), (0, u "java/util/SequencedCollection")] 129

def k6m0 : Method := { name := "size", desc := "()I", sig := { parameters := [], returnType := some .int }, accessFlags := 1025, code := none }
def k6m1 : Method := { name := "get", desc := "(I)Ljava/lang/Object;", sig := { parameters := [.int], returnType := some (.object "java/lang/Object") }, accessFlags := 1025, code := none }
/-- java/util/List -/
def k6 : Class := { plain "java/util/List" (some 0) with
  accessFlags := 1537
  interfaces := #[5]
  cf := some (fileOf pool6 8 #[] #[{ accessFlags := 1025, nameIndex := 79, descriptorIndex := 80, attributes := #[] }, { accessFlags := 1025, nameIndex := 75, descriptorIndex := 76, attributes := #[] }] 1537 103 #[120] #[])
  fields := #[]
  methods := #[k6m0, k6m1]
  instanceTypes := #[]
  staticTypes := #[]
  resolved := Array.replicate 251 none
  statics := none }

def pool7 : Array CpInfo := pool [(1, .methodref 2 3), (0, .class_ 4), (0, .nameAndType 5 6), (0, u "java/util/AbstractCollection"), (0, u "<init>"), (0, u "()V"), (0, .fieldref 8 9), (0, .class_ 10), (0, .nameAndType 11 12), (0, u "java/util/AbstractList"), (0, u "modCount"), (0, u "I"), (64, .class_ 78), (0, u "java/util/AbstractList$Itr"), (3, .class_ 83), (0, u "java/util/AbstractList$ListItr"), (9, .class_ 94), (0, u "java/util/AbstractList$RandomAccessSubList"), (3, .class_ 99), (0, u "java/util/AbstractList$SubList"), (33, .class_ 134), (0, u "java/util/List"), (73, .class_ 209), (0, u "java/util/AbstractList$SubList$1"), (0, .class_ 211), (0, u "java/util/AbstractList$RandomAccessSpliterator")] 6

def k7c0 : Code := { maxStack := 2, maxLocals := 1, code := jdk_39_method_1_code, exceptionTable := #[], attributes := #[] }
def k7m0 : Method := { name := "<init>", desc := "()V", sig := { parameters := [], returnType := none }, accessFlags := 4, code := some k7c0 }
/-- java/util/AbstractList -/
def k7 : Class := { plain "java/util/AbstractList" (some 4) with
  accessFlags := 1057
  interfaces := #[6]
  cf := some (fileOf pool7 8 #[.nestMembers #[93, 98, 208, 210, 82, 77]] #[{ accessFlags := 4, nameIndex := 5, descriptorIndex := 6, attributes := #[] }] 1057 2 #[133] #[{ accessFlags := 132, nameIndex := 11, descriptorIndex := 12, attributes := #[] }])
  fields := #[{ name := "modCount", type := .int, accessFlags := 132, slot := 0, constantValue := 0 }]
  methods := #[k7m0]
  instanceTypes := #[.int]
  staticTypes := #[]
  resolved := Array.replicate 218 none
  statics := none }

def pool8 : Array CpInfo := pool [(1, .class_ 2), (0, u "java/util/RandomAccess"), (0, .class_ 4), (0, u "java/lang/Object")] 2

/-- java/util/RandomAccess -/
def k8 : Class := { plain "java/util/RandomAccess" (some 0) with
  accessFlags := 1537
  interfaces := #[]
  cf := some (fileOf pool8 1 #[] #[] 1537 3 #[] #[])
  fields := #[]
  methods := #[]
  instanceTypes := #[]
  staticTypes := #[]
  resolved := Array.replicate 7 none
  statics := none }

def pool9 : Array CpInfo := pool [(1, .class_ 2), (0, u "java/lang/Cloneable"), (0, .class_ 4), (0, u "java/lang/Object")] 2

/-- java/lang/Cloneable -/
def k9 : Class := { plain "java/lang/Cloneable" (some 0) with
  accessFlags := 1537
  interfaces := #[]
  cf := some (fileOf pool9 1 #[] #[] 1537 3 #[] #[])
  fields := #[]
  methods := #[]
  instanceTypes := #[]
  staticTypes := #[]
  resolved := Array.replicate 7 none
  statics := none }

def pool10 : Array CpInfo := pool [(1, .class_ 2), (0, u "java/io/Serializable"), (0, .class_ 4), (0, u "java/lang/Object")] 2

/-- java/io/Serializable -/
def k10 : Class := { plain "java/io/Serializable" (some 0) with
  accessFlags := 1537
  interfaces := #[]
  cf := some (fileOf pool10 1 #[] #[] 1537 3 #[] #[])
  fields := #[]
  methods := #[]
  instanceTypes := #[]
  staticTypes := #[]
  resolved := Array.replicate 7 none
  statics := none }

def pool11 : Array CpInfo := pool [(1, .methodref 2 3), (0, .class_ 4), (0, .nameAndType 5 6), (0, u "java/util/AbstractList"), (0, u "<init>"), (0, u "()V"), (0, .class_ 8), (0, u "java/lang/Object"), (0, .fieldref 10 11), (0, .class_ 12), (0, .nameAndType 13 14), (0, u "java/util/ArrayList"), (0, u "elementData"), (0, u "[Ljava/lang/Object;"), (2, u "EMPTY_ELEMENTDATA"), (21, .fieldref 10 40), (0, .nameAndType 41 14), (0, u "DEFAULTCAPACITY_EMPTY_ELEMENTDATA"), (5, u "()[Ljava/lang/Object;"), (0, .fieldref 10 49), (0, .nameAndType 50 51), (0, u "size"), (0, u "I"), (11, .fieldref 10 64), (0, .nameAndType 65 51), (0, u "modCount"), (3, .methodref 10 70), (0, .nameAndType 71 72), (0, u "grow"), (0, u "(I)[Ljava/lang/Object;"), (6, .methodref 80 81), (0, .class_ 82), (0, .nameAndType 83 84), (0, u "java/lang/Math"), (0, u "max"), (0, u "(II)I"), (11, u "(Ljava/lang/Object;)Z"), (21, .methodref 119 120), (0, .class_ 121), (0, .nameAndType 122 84), (0, u "java/util/Objects"), (0, u "checkIndex"), (0, .methodref 10 124), (0, .nameAndType 13 125), (0, u "(I)Ljava/lang/Object;"), (3, .methodref 10 130), (0, .nameAndType 71 47), (0, .methodref 10 132), (0, .nameAndType 133 134), (0, u "add"), (0, u "(Ljava/lang/Object;[Ljava/lang/Object;I)V"), (13, .class_ 149), (0, u "java/util/List"), (36, u "()I"), (75, .class_ 263), (0, u "java/util/ArrayList$ListItr"), (3, .class_ 268), (0, u "java/util/ArrayList$Itr"), (7, .class_ 277), (0, u "java/util/ArrayList$SubList"), (12, .class_ 291), (0, u "java/util/ArrayList$ArrayListSpliterator"), (37, .class_ 330), (0, u "java/util/RandomAccess"), (0, .class_ 332), (0, u "java/lang/Cloneable"), (0, .class_ 334), (0, u "java/io/Serializable"), (0, u "serialVersionUID"), (0, u "J"), (3, u "DEFAULT_CAPACITY"), (40, u "get"), (118, .class_ 501), (0, u "java/util/ArrayList$SubList$2"), (0, .class_ 503), (0, u "java/util/ArrayList$SubList$1")] 5

def k11c0 : Code := { maxStack := 2, maxLocals := 1, code := jdk_38_method_2_code, exceptionTable := #[], attributes := #[] }
def k11m0 : Method := { name := "<init>", desc := "()V", sig := { parameters := [], returnType := none }, accessFlags := 1, code := some k11c0 }
def k11c1 : Code := { maxStack := 4, maxLocals := 4, code := jdk_38_method_6_code, exceptionTable := #[], attributes := #[] }
def k11m1 : Method := { name := "grow", desc := "(I)[Ljava/lang/Object;", sig := { parameters := [.int], returnType := some (.array (.object "java/lang/Object")) }, accessFlags := 2, code := some k11c1 }
def k11c2 : Code := { maxStack := 3, maxLocals := 1, code := jdk_38_method_7_code, exceptionTable := #[], attributes := #[] }
def k11m2 : Method := { name := "grow", desc := "()[Ljava/lang/Object;", sig := { parameters := [], returnType := some (.array (.object "java/lang/Object")) }, accessFlags := 2, code := some k11c2 }
def k11c3 : Code := { maxStack := 1, maxLocals := 1, code := jdk_38_method_8_code, exceptionTable := #[], attributes := #[] }
def k11m3 : Method := { name := "size", desc := "()I", sig := { parameters := [], returnType := some .int }, accessFlags := 1, code := some k11c3 }
def k11c4 : Code := { maxStack := 2, maxLocals := 2, code := jdk_38_method_18_code, exceptionTable := #[], attributes := #[] }
def k11m4 : Method := { name := "elementData", desc := "(I)Ljava/lang/Object;", sig := { parameters := [.int], returnType := some (.object "java/lang/Object") }, accessFlags := 0, code := some k11c4 }
def k11c5 : Code := { maxStack := 2, maxLocals := 2, code := jdk_38_method_20_code, exceptionTable := #[], attributes := #[] }
def k11m5 : Method := { name := "get", desc := "(I)Ljava/lang/Object;", sig := { parameters := [.int], returnType := some (.object "java/lang/Object") }, accessFlags := 1, code := some k11c5 }
def k11c6 : Code := { maxStack := 3, maxLocals := 4, code := jdk_38_method_24_code, exceptionTable := #[], attributes := #[] }
def k11m6 : Method := { name := "add", desc := "(Ljava/lang/Object;[Ljava/lang/Object;I)V", sig := { parameters := [(.object "java/lang/Object"), (.array (.object "java/lang/Object")), .int], returnType := none }, accessFlags := 2, code := some k11c6 }
def k11c7 : Code := { maxStack := 4, maxLocals := 2, code := jdk_38_method_25_code, exceptionTable := #[], attributes := #[] }
def k11m7 : Method := { name := "add", desc := "(Ljava/lang/Object;)Z", sig := { parameters := [(.object "java/lang/Object")], returnType := some .boolean }, accessFlags := 1, code := some k11c7 }
/-- java/util/ArrayList -/
def k11 : Class := { plain "java/util/ArrayList" (some 7) with
  accessFlags := 33
  interfaces := #[6, 8, 9, 10]
  cf := some (fileOf pool11 10 #[.nestMembers #[290, 276, 500, 502, 262, 267]] #[{ accessFlags := 1, nameIndex := 5, descriptorIndex := 6, attributes := #[] }, { accessFlags := 2, nameIndex := 71, descriptorIndex := 72, attributes := #[] }, { accessFlags := 2, nameIndex := 71, descriptorIndex := 47, attributes := #[] }, { accessFlags := 1, nameIndex := 50, descriptorIndex := 186, attributes := #[] }, { accessFlags := 0, nameIndex := 13, descriptorIndex := 125, attributes := #[] }, { accessFlags := 1, nameIndex := 381, descriptorIndex := 125, attributes := #[] }, { accessFlags := 2, nameIndex := 133, descriptorIndex := 134, attributes := #[] }, { accessFlags := 1, nameIndex := 133, descriptorIndex := 96, attributes := #[] }] 33 2 #[148, 329, 331, 333] #[{ accessFlags := 26, nameIndex := 335, descriptorIndex := 336, attributes := #[] }, { accessFlags := 26, nameIndex := 340, descriptorIndex := 51, attributes := #[] }, { accessFlags := 26, nameIndex := 17, descriptorIndex := 14, attributes := #[] }, { accessFlags := 26, nameIndex := 41, descriptorIndex := 14, attributes := #[] }, { accessFlags := 128, nameIndex := 13, descriptorIndex := 14, attributes := #[] }, { accessFlags := 2, nameIndex := 50, descriptorIndex := 51, attributes := #[] }])
  fields := #[{ name := "serialVersionUID", type := .long, accessFlags := 26, slot := 0, constantValue := 0 }, { name := "DEFAULT_CAPACITY", type := .int, accessFlags := 26, slot := 1, constantValue := 0 }, { name := "EMPTY_ELEMENTDATA", type := (.array (.object "java/lang/Object")), accessFlags := 26, slot := 2, constantValue := 0 }, { name := "DEFAULTCAPACITY_EMPTY_ELEMENTDATA", type := (.array (.object "java/lang/Object")), accessFlags := 26, slot := 3, constantValue := 0 }, { name := "elementData", type := (.array (.object "java/lang/Object")), accessFlags := 128, slot := 1, constantValue := 0 }, { name := "size", type := .int, accessFlags := 2, slot := 2, constantValue := 0 }]
  methods := #[k11m0, k11m1, k11m2, k11m3, k11m4, k11m5, k11m6, k11m7]
  instanceTypes := #[.int, (.array (.object "java/lang/Object")), .int]
  staticTypes := #[.long, .int, (.array (.object "java/lang/Object")), (.array (.object "java/lang/Object"))]
  resolved := Array.replicate 509 none
  statics := some 0 }

def pool12 : Array CpInfo := pool [(1, .methodref 2 3), (0, .class_ 4), (0, .nameAndType 5 6), (0, u "java/lang/Object"), (0, u "<init>"), (0, u "()V"), (0, .fieldref 8 9), (0, .class_ 10), (0, .nameAndType 11 12), (0, u "com/example/limpet/limpet/RedisBackend$Acknowledged"), (0, u "reply"), (0, u "Ljava/util/List;"), (0, .fieldref 8 14), (0, .nameAndType 15 16), (0, u "asked"), (0, u "I"), (0, .fieldref 8 18), (0, .nameAndType 19 20), (0, u "acknowledged"), (0, u "J"), (0, .fieldref 8 22), (0, .nameAndType 23 24), (0, u "failure"), (0, u "Ljava/lang/RuntimeException;"), (0, .methodref 8 26), (0, .nameAndType 5 27), (0, u "(Ljava/util/List;IJLjava/lang/RuntimeException;)V"), (5, u "notAsked"), (0, u "(Ljava/util/List;)Lcom/example/limpet/limpet/RedisBackend$Acknowledged;"), (1, u "()Ljava/util/List;"), (1, u "counts"), (0, u "()Z"), (1, u "()I"), (0, u "()J"), (0, u "()Ljava/lang/RuntimeException;"), (3, .class_ 48), (0, u "com/example/limpet/limpet/RedisBackend")] 2

def k12c0 : Code := { maxStack := 3, maxLocals := 6, code := prog_15_method_1_code, exceptionTable := #[], attributes := #[] }
def k12m0 : Method := { name := "<init>", desc := "(Ljava/util/List;IJLjava/lang/RuntimeException;)V", sig := { parameters := [(.object "java/util/List"), .int, .long, (.object "java/lang/RuntimeException")], returnType := none }, accessFlags := 2, code := some k12c0 }
def k12c1 : Code := { maxStack := 7, maxLocals := 1, code := prog_15_method_2_code, exceptionTable := #[], attributes := #[] }
def k12m1 : Method := { name := "notAsked", desc := "(Ljava/util/List;)Lcom/example/limpet/limpet/RedisBackend$Acknowledged;", sig := { parameters := [(.object "java/util/List")], returnType := some (.object "com/example/limpet/limpet/RedisBackend$Acknowledged") }, accessFlags := 9, code := some k12c1 }
def k12c2 : Code := { maxStack := 1, maxLocals := 1, code := prog_15_method_3_code, exceptionTable := #[], attributes := #[] }
def k12m2 : Method := { name := "reply", desc := "()Ljava/util/List;", sig := { parameters := [], returnType := some (.object "java/util/List") }, accessFlags := 1, code := some k12c2 }
def k12c3 : Code := { maxStack := 4, maxLocals := 1, code := prog_15_method_4_code, exceptionTable := #[], attributes := #[] }
def k12m3 : Method := { name := "counts", desc := "()Z", sig := { parameters := [], returnType := some .boolean }, accessFlags := 0, code := some k12c3 }
def k12c4 : Code := { maxStack := 1, maxLocals := 1, code := prog_15_method_5_code, exceptionTable := #[], attributes := #[] }
def k12m4 : Method := { name := "asked", desc := "()I", sig := { parameters := [], returnType := some .int }, accessFlags := 0, code := some k12c4 }
def k12c5 : Code := { maxStack := 2, maxLocals := 1, code := prog_15_method_6_code, exceptionTable := #[], attributes := #[] }
def k12m5 : Method := { name := "acknowledged", desc := "()J", sig := { parameters := [], returnType := some .long }, accessFlags := 0, code := some k12c5 }
def k12c6 : Code := { maxStack := 1, maxLocals := 1, code := prog_15_method_7_code, exceptionTable := #[], attributes := #[] }
def k12m6 : Method := { name := "failure", desc := "()Ljava/lang/RuntimeException;", sig := { parameters := [], returnType := some (.object "java/lang/RuntimeException") }, accessFlags := 0, code := some k12c6 }
/-- com/example/limpet/limpet/RedisBackend$Acknowledged -/
def k12 : Class := { plain "com/example/limpet/limpet/RedisBackend$Acknowledged" (some 0) with
  accessFlags := 33
  interfaces := #[]
  cf := some (fileOf pool12 8 #[.nestHost 47] #[{ accessFlags := 2, nameIndex := 5, descriptorIndex := 27, attributes := #[] }, { accessFlags := 9, nameIndex := 33, descriptorIndex := 34, attributes := #[] }, { accessFlags := 1, nameIndex := 11, descriptorIndex := 36, attributes := #[] }, { accessFlags := 0, nameIndex := 38, descriptorIndex := 39, attributes := #[] }, { accessFlags := 0, nameIndex := 15, descriptorIndex := 41, attributes := #[] }, { accessFlags := 0, nameIndex := 19, descriptorIndex := 42, attributes := #[] }, { accessFlags := 0, nameIndex := 23, descriptorIndex := 43, attributes := #[] }] 33 2 #[] #[{ accessFlags := 18, nameIndex := 11, descriptorIndex := 12, attributes := #[] }, { accessFlags := 18, nameIndex := 15, descriptorIndex := 16, attributes := #[] }, { accessFlags := 18, nameIndex := 19, descriptorIndex := 20, attributes := #[] }, { accessFlags := 18, nameIndex := 23, descriptorIndex := 24, attributes := #[] }])
  fields := #[{ name := "reply", type := (.object "java/util/List"), accessFlags := 18, slot := 0, constantValue := 0 }, { name := "asked", type := .int, accessFlags := 18, slot := 1, constantValue := 0 }, { name := "acknowledged", type := .long, accessFlags := 18, slot := 2, constantValue := 0 }, { name := "failure", type := (.object "java/lang/RuntimeException"), accessFlags := 18, slot := 3, constantValue := 0 }]
  methods := #[k12m0, k12m1, k12m2, k12m3, k12m4, k12m5, k12m6]
  instanceTypes := #[(.object "java/util/List"), .int, .long, (.object "java/lang/RuntimeException")]
  staticTypes := #[]
  resolved := Array.replicate 51 none
  statics := none }

def pool13 : Array CpInfo := pool [(1, .methodref 2 3), (0, .class_ 4), (0, .nameAndType 5 6), (0, u "java/lang/Object"), (0, u "<init>"), (0, u "()V"), (1, .class_ 10), (1, u "java/lang/Number"), (2, .class_ 14), (0, u "java/io/Serializable"), (0, u "serialVersionUID"), (0, u "J")] 20

def k13c0 : Code := { maxStack := 1, maxLocals := 1, code := jdk_18_method_1_code, exceptionTable := #[], attributes := #[] }
def k13m0 : Method := { name := "<init>", desc := "()V", sig := { parameters := [], returnType := none }, accessFlags := 1, code := some k13c0 }
/-- java/lang/Number -/
def k13 : Class := { plain "java/lang/Number" (some 0) with
  accessFlags := 1057
  interfaces := #[10]
  cf := some (fileOf pool13 8 #[] #[{ accessFlags := 1, nameIndex := 5, descriptorIndex := 6, attributes := #[] }] 1057 2 #[13] #[{ accessFlags := 26, nameIndex := 15, descriptorIndex := 16, attributes := #[] }])
  fields := #[{ name := "serialVersionUID", type := .long, accessFlags := 26, slot := 0, constantValue := 0 }]
  methods := #[k13m0]
  instanceTypes := #[]
  staticTypes := #[.long]
  resolved := Array.replicate 37 none
  statics := none }

def pool14 : Array CpInfo := pool [(1, .class_ 2), (0, u "java/lang/Comparable"), (0, .class_ 4), (0, u "java/lang/Object")] 7

/-- java/lang/Comparable -/
def k14 : Class := { plain "java/lang/Comparable" (some 0) with
  accessFlags := 1537
  interfaces := #[]
  cf := some (fileOf pool14 1 #[] #[] 1537 3 #[] #[])
  fields := #[]
  methods := #[]
  instanceTypes := #[]
  staticTypes := #[]
  resolved := Array.replicate 12 none
  statics := none }

def pool15 : Array CpInfo := pool [(1, .class_ 2), (0, u "java/lang/constant/Constable"), (0, .class_ 4), (0, u "java/lang/Object")] 6

/-- java/lang/constant/Constable -/
def k15 : Class := { plain "java/lang/constant/Constable" (some 0) with
  accessFlags := 1537
  interfaces := #[]
  cf := some (fileOf pool15 1 #[] #[] 1537 3 #[] #[])
  fields := #[]
  methods := #[]
  instanceTypes := #[]
  staticTypes := #[]
  resolved := Array.replicate 11 none
  statics := none }

def pool16 : Array CpInfo := pool [(1, .class_ 2), (0, u "java/lang/constant/ConstantDesc"), (0, .class_ 4), (0, u "java/lang/Object")] 32

/-- java/lang/constant/ConstantDesc -/
def k16 : Class := { plain "java/lang/constant/ConstantDesc" (some 0) with
  accessFlags := 1537
  interfaces := #[]
  cf := some (fileOf pool16 1 #[] #[] 1537 3 #[] #[])
  fields := #[]
  methods := #[]
  instanceTypes := #[]
  staticTypes := #[]
  resolved := Array.replicate 37 none
  statics := none }

def pool17 : Array CpInfo := pool [(1, .class_ 2), (0, u "java/lang/Long"), (55, .nameAndType 59 60), (0, u "<init>"), (0, u "()V"), (24, u "valueOf"), (143, u "(J)Ljava/lang/Long;"), (0, .long 18446744073709551488), (1, .long 127), (1, .fieldref 235 236), (0, .class_ 237), (0, .nameAndType 238 239), (0, u "java/lang/Long$LongCache"), (0, u "cache"), (0, u "[Ljava/lang/Long;"), (0, .methodref 1 241), (0, .nameAndType 59 242), (0, u "(J)V"), (27, .methodref 271 58), (0, .class_ 272), (0, u "java/lang/Number"), (0, .fieldref 1 274), (0, .nameAndType 275 276), (0, u "value"), (0, u "J"), (5, u "longValue"), (0, u "()J"), (77, u "TYPE"), (0, u "Ljava/lang/Class;"), (0, .class_ 364), (0, u "java/lang/Comparable"), (0, .class_ 366), (0, u "java/lang/constant/Constable"), (0, .class_ 368), (0, u "java/lang/constant/ConstantDesc"), (0, u "MIN_VALUE"), (1, u "MAX_VALUE"), (4, u "SIZE"), (0, u "I"), (1, u "BYTES"), (1, u "serialVersionUID")] 142

def k17c0 : Code := { maxStack := 4, maxLocals := 3, code := jdk_35_method_24_code, exceptionTable := #[], attributes := #[] }
def k17m0 : Method := { name := "valueOf", desc := "(J)Ljava/lang/Long;", sig := { parameters := [.long], returnType := some (.object "java/lang/Long") }, accessFlags := 9, code := some k17c0 }
def k17c1 : Code := { maxStack := 3, maxLocals := 3, code := jdk_35_method_26_code, exceptionTable := #[], attributes := #[] }
def k17m1 : Method := { name := "<init>", desc := "(J)V", sig := { parameters := [.long], returnType := none }, accessFlags := 1, code := some k17c1 }
def k17c2 : Code := { maxStack := 2, maxLocals := 1, code := jdk_35_method_31_code, exceptionTable := #[], attributes := #[] }
def k17m2 : Method := { name := "longValue", desc := "()J", sig := { parameters := [], returnType := some .long }, accessFlags := 1, code := some k17c2 }
/-- java/lang/Long -/
def k17 : Class := { plain "java/lang/Long" (some 13) with
  accessFlags := 49
  interfaces := #[14, 15, 16]
  cf := some (fileOf pool17 1 #[.nestMembers #[235]] #[{ accessFlags := 9, nameIndex := 85, descriptorIndex := 229, attributes := #[] }, { accessFlags := 1, nameIndex := 59, descriptorIndex := 242, attributes := #[] }, { accessFlags := 1, nameIndex := 282, descriptorIndex := 283, attributes := #[] }] 49 271 #[363, 365, 367] #[{ accessFlags := 25, nameIndex := 369, descriptorIndex := 276, attributes := #[] }, { accessFlags := 25, nameIndex := 371, descriptorIndex := 276, attributes := #[] }, { accessFlags := 25, nameIndex := 361, descriptorIndex := 362, attributes := #[] }, { accessFlags := 18, nameIndex := 275, descriptorIndex := 276, attributes := #[] }, { accessFlags := 25, nameIndex := 376, descriptorIndex := 377, attributes := #[] }, { accessFlags := 25, nameIndex := 379, descriptorIndex := 377, attributes := #[] }, { accessFlags := 26, nameIndex := 381, descriptorIndex := 276, attributes := #[] }])
  fields := #[{ name := "MIN_VALUE", type := .long, accessFlags := 25, slot := 0, constantValue := 0 }, { name := "MAX_VALUE", type := .long, accessFlags := 25, slot := 1, constantValue := 0 }, { name := "TYPE", type := (.object "java/lang/Class"), accessFlags := 25, slot := 2, constantValue := 0 }, { name := "value", type := .long, accessFlags := 18, slot := 0, constantValue := 0 }, { name := "SIZE", type := .int, accessFlags := 25, slot := 3, constantValue := 0 }, { name := "BYTES", type := .int, accessFlags := 25, slot := 4, constantValue := 0 }, { name := "serialVersionUID", type := .long, accessFlags := 26, slot := 5, constantValue := 0 }]
  methods := #[k17m0, k17m1, k17m2]
  instanceTypes := #[.long]
  staticTypes := #[.long, .long, (.object "java/lang/Class"), .int, .int, .long]
  resolved := Array.replicate 524 none
  statics := none }

def pool18 : Array CpInfo := pool [(2, .class_ 4), (1, u "java/lang/Object"), (0, u "<init>"), (0, u "()V"), (0, .class_ 8), (0, u "java/lang/Long"), (7, .class_ 18), (1, u "java/lang/Long$LongCache"), (0, u "$assertionsDisabled"), (0, u "Z"), (8, u "archivedCache"), (0, u "[Ljava/lang/Long;"), (7, u "cache")] 24

def k18m0 : Method := { name := "<init>", desc := "()V", sig := { parameters := [], returnType := none }, accessFlags := 2, code := none }
/-- java/lang/Long$LongCache -/
def k18 : Class := { plain "java/lang/Long$LongCache" (some 0) with
  accessFlags := 48
  interfaces := #[]
  cf := some (fileOf pool18 16 #[.nestHost 7] #[{ accessFlags := 2, nameIndex := 5, descriptorIndex := 6, attributes := #[] }] 48 2 #[] #[{ accessFlags := 24, nameIndex := 38, descriptorIndex := 30, attributes := #[] }, { accessFlags := 8, nameIndex := 29, descriptorIndex := 30, attributes := #[] }, { accessFlags := 4120, nameIndex := 19, descriptorIndex := 20, attributes := #[] }])
  fields := #[{ name := "cache", type := (.array (.object "java/lang/Long")), accessFlags := 24, slot := 0, constantValue := 0 }, { name := "archivedCache", type := (.array (.object "java/lang/Long")), accessFlags := 8, slot := 1, constantValue := 0 }, { name := "$assertionsDisabled", type := .boolean, accessFlags := 4120, slot := 2, constantValue := 0 }]
  methods := #[k18m0]
  instanceTypes := #[]
  staticTypes := #[(.array (.object "java/lang/Long")), (.array (.object "java/lang/Long")), .boolean]
  resolved := Array.replicate 63 none
  statics := some 1 }

def pool19 : Array CpInfo := pool [(1, .class_ 2), (0, u "java/lang/Math"), (1, .class_ 6), (1, u "java/lang/Object"), (0, u "<init>"), (0, u "()V"), (89, .class_ 100), (1, u "java/lang/Math$RandomNumberGeneratorHolder"), (71, u "negativeZeroFloatBits"), (0, u "J"), (2, u "negativeZeroDoubleBits"), (21, u "max"), (46, u "$assertionsDisabled"), (0, u "Z"), (88, u "(II)I"), (2, u "twoToTheDoubleScaleDown"), (0, u "D"), (4, u "twoToTheDoubleScaleUp"), (9, u "E"), (3, u "PI"), (2, u "TAU"), (2, u "DEGREES_TO_RADIANS"), (0, u "RADIANS_TO_DEGREES")] 94

def k19m0 : Method := { name := "<init>", desc := "()V", sig := { parameters := [], returnType := none }, accessFlags := 2, code := none }
def k19c1 : Code := { maxStack := 2, maxLocals := 2, code := jdk_29_method_65_code, exceptionTable := #[], attributes := #[] }
def k19m1 : Method := { name := "max", desc := "(II)I", sig := { parameters := [.int, .int], returnType := some .int }, accessFlags := 9, code := some k19c1 }
/-- java/lang/Math -/
def k19 : Class := { plain "java/lang/Math" (some 0) with
  accessFlags := 49
  interfaces := #[]
  cf := some (fileOf pool19 1 #[.nestMembers #[98]] #[{ accessFlags := 2, nameIndex := 7, descriptorIndex := 8, attributes := #[] }, { accessFlags := 9, nameIndex := 198, descriptorIndex := 335, attributes := #[] }] 49 4 #[] #[{ accessFlags := 25, nameIndex := 354, descriptorIndex := 339, attributes := #[] }, { accessFlags := 25, nameIndex := 358, descriptorIndex := 339, attributes := #[] }, { accessFlags := 25, nameIndex := 361, descriptorIndex := 339, attributes := #[] }, { accessFlags := 26, nameIndex := 364, descriptorIndex := 339, attributes := #[] }, { accessFlags := 26, nameIndex := 365, descriptorIndex := 339, attributes := #[] }, { accessFlags := 26, nameIndex := 172, descriptorIndex := 173, attributes := #[] }, { accessFlags := 26, nameIndex := 176, descriptorIndex := 173, attributes := #[] }, { accessFlags := 8, nameIndex := 344, descriptorIndex := 339, attributes := #[] }, { accessFlags := 8, nameIndex := 338, descriptorIndex := 339, attributes := #[] }, { accessFlags := 4120, nameIndex := 245, descriptorIndex := 246, attributes := #[] }])
  fields := #[{ name := "E", type := .double, accessFlags := 25, slot := 0, constantValue := 0 }, { name := "PI", type := .double, accessFlags := 25, slot := 1, constantValue := 0 }, { name := "TAU", type := .double, accessFlags := 25, slot := 2, constantValue := 0 }, { name := "DEGREES_TO_RADIANS", type := .double, accessFlags := 26, slot := 3, constantValue := 0 }, { name := "RADIANS_TO_DEGREES", type := .double, accessFlags := 26, slot := 4, constantValue := 0 }, { name := "negativeZeroFloatBits", type := .long, accessFlags := 26, slot := 5, constantValue := 0 }, { name := "negativeZeroDoubleBits", type := .long, accessFlags := 26, slot := 6, constantValue := 0 }, { name := "twoToTheDoubleScaleUp", type := .double, accessFlags := 8, slot := 7, constantValue := 0 }, { name := "twoToTheDoubleScaleDown", type := .double, accessFlags := 8, slot := 8, constantValue := 0 }, { name := "$assertionsDisabled", type := .boolean, accessFlags := 4120, slot := 9, constantValue := 0 }]
  methods := #[k19m0, k19m1]
  instanceTypes := #[]
  staticTypes := #[.double, .double, .double, .double, .double, .long, .long, .double, .double, .boolean]
  resolved := Array.replicate 460 none
  statics := none }

def pool20 : Array CpInfo := pool [(2, .class_ 4), (1, u "java/lang/Object"), (0, u "<init>"), (0, u "()V"), (35, .class_ 44), (1, u "java/util/Objects"), (60, .methodref 106 107), (0, .class_ 108), (0, .nameAndType 109 110), (0, u "jdk/internal/util/Preconditions"), (0, u "checkIndex"), (0, u "(IILjava/util/function/BiFunction;)I"), (60, u "(II)I")] 12

def k20m0 : Method := { name := "<init>", desc := "()V", sig := { parameters := [], returnType := none }, accessFlags := 2, code := none }
def k20c1 : Code := { maxStack := 3, maxLocals := 2, code := jdk_31_method_17_code, exceptionTable := #[], attributes := #[] }
def k20m1 : Method := { name := "checkIndex", desc := "(II)I", sig := { parameters := [.int, .int], returnType := some .int }, accessFlags := 9, code := some k20c1 }
/-- java/util/Objects -/
def k20 : Class := { plain "java/util/Objects" (some 0) with
  accessFlags := 49
  interfaces := #[]
  cf := some (fileOf pool20 42 #[] #[{ accessFlags := 2, nameIndex := 5, descriptorIndex := 6, attributes := #[] }, { accessFlags := 9, nameIndex := 109, descriptorIndex := 171, attributes := #[] }] 49 2 #[] #[])
  fields := #[]
  methods := #[k20m0, k20m1]
  instanceTypes := #[]
  staticTypes := #[]
  resolved := Array.replicate 184 none
  statics := none }

def pool21 : Array CpInfo := pool [(2, .class_ 4), (1, u "java/lang/Object"), (0, u "<init>"), (0, u "()V"), (17, .class_ 26), (1, u "jdk/internal/util/Preconditions"), (6, u "checkIndex"), (21, .class_ 56), (0, u "jdk/internal/util/Preconditions$4"), (57, .class_ 115), (0, u "jdk/internal/util/Preconditions$1"), (7, u "SIOOBE_FORMATTER"), (0, u "Ljava/util/function/BiFunction;"), (0, .class_ 126), (0, u "jdk/internal/util/Preconditions$2"), (3, u "AIOOBE_FORMATTER"), (0, .class_ 132), (0, u "jdk/internal/util/Preconditions$3"), (3, u "IOOBE_FORMATTER"), (41, u "(IILjava/util/function/BiFunction;)I")] 15

def k21m0 : Method := { name := "<init>", desc := "()V", sig := { parameters := [], returnType := none }, accessFlags := 1, code := none }
def k21c1 : Code := { maxStack := 3, maxLocals := 3, code := jdk_41_method_11_code, exceptionTable := #[], attributes := #[] }
def k21m1 : Method := { name := "checkIndex", desc := "(IILjava/util/function/BiFunction;)I", sig := { parameters := [.int, .int, (.object "java/util/function/BiFunction")], returnType := some .int }, accessFlags := 9, code := some k21c1 }
/-- jdk/internal/util/Preconditions -/
def k21 : Class := { plain "jdk/internal/util/Preconditions" (some 0) with
  accessFlags := 33
  interfaces := #[]
  cf := some (fileOf pool21 24 #[.nestMembers #[55, 131, 125, 114]] #[{ accessFlags := 1, nameIndex := 5, descriptorIndex := 6, attributes := #[] }, { accessFlags := 9, nameIndex := 33, descriptorIndex := 178, attributes := #[] }] 33 2 #[] #[{ accessFlags := 25, nameIndex := 123, descriptorIndex := 124, attributes := #[] }, { accessFlags := 25, nameIndex := 130, descriptorIndex := 124, attributes := #[] }, { accessFlags := 25, nameIndex := 136, descriptorIndex := 124, attributes := #[] }])
  fields := #[{ name := "SIOOBE_FORMATTER", type := (.object "java/util/function/BiFunction"), accessFlags := 25, slot := 0, constantValue := 0 }, { name := "AIOOBE_FORMATTER", type := (.object "java/util/function/BiFunction"), accessFlags := 25, slot := 1, constantValue := 0 }, { name := "IOOBE_FORMATTER", type := (.object "java/util/function/BiFunction"), accessFlags := 25, slot := 2, constantValue := 0 }]
  methods := #[k21m0, k21m1]
  instanceTypes := #[]
  staticTypes := #[(.object "java/util/function/BiFunction"), (.object "java/util/function/BiFunction"), (.object "java/util/function/BiFunction")]
  resolved := Array.replicate 194 none
  statics := none }

/-- the primitive byte -/
def k22 : Class := { plain "byte" none with kind := .primitive 'B', accessFlags := 0x411 }
/-- [B -/
def k23 : Class := { plain "[B" (some 0) with kind := .array 22 .byte, interfaces := #[9, 10], accessFlags := 1041 }

/-- the primitive int -/
def k24 : Class := { plain "int" none with kind := .primitive 'I', accessFlags := 0x411 }
/-- [I -/
def k25 : Class := { plain "[I" (some 0) with kind := .array 24 .int, interfaces := #[9, 10], accessFlags := 1041 }

/-- [Ljava/lang/Long; -/
def k26 : Class := { plain "[Ljava/lang/Long;" (some 0) with kind := .array 17 (.object "java/lang/Long"), interfaces := #[9, 10], accessFlags := 1041 }

/-- [Ljava/lang/Object; -/
def k27 : Class := { plain "[Ljava/lang/Object;" (some 0) with kind := .array 0 (.object "java/lang/Object"), interfaces := #[9, 10], accessFlags := 1041 }

def heap : Heap := #[{ cls := 11, slots := #[.long 0, .int 0, .ref 259, .ref 260], vm := .statics 11 },
  { cls := 18, slots := #[.ref 2, .null, .int 0], vm := .statics 18 },
  { cls := 26, slots := #[.ref 3, .ref 4, .ref 5, .ref 6, .ref 7, .ref 8, .ref 9, .ref 10, .ref 11, .ref 12, .ref 13, .ref 14, .ref 15, .ref 16, .ref 17, .ref 18, .ref 19, .ref 20, .ref 21, .ref 22, .ref 23, .ref 24, .ref 25, .ref 26, .ref 27, .ref 28, .ref 29, .ref 30, .ref 31, .ref 32, .ref 33, .ref 34, .ref 35, .ref 36, .ref 37, .ref 38, .ref 39, .ref 40, .ref 41, .ref 42, .ref 43, .ref 44, .ref 45, .ref 46, .ref 47, .ref 48, .ref 49, .ref 50, .ref 51, .ref 52, .ref 53, .ref 54, .ref 55, .ref 56, .ref 57, .ref 58, .ref 59, .ref 60, .ref 61, .ref 62, .ref 63, .ref 64, .ref 65, .ref 66, .ref 67, .ref 68, .ref 69, .ref 70, .ref 71, .ref 72, .ref 73, .ref 74, .ref 75, .ref 76, .ref 77, .ref 78, .ref 79, .ref 80, .ref 81, .ref 82, .ref 83, .ref 84, .ref 85, .ref 86, .ref 87, .ref 88, .ref 89, .ref 90, .ref 91, .ref 92, .ref 93, .ref 94, .ref 95, .ref 96, .ref 97, .ref 98, .ref 99, .ref 100, .ref 101, .ref 102, .ref 103, .ref 104, .ref 105, .ref 106, .ref 107, .ref 108, .ref 109, .ref 110, .ref 111, .ref 112, .ref 113, .ref 114, .ref 115, .ref 116, .ref 117, .ref 118, .ref 119, .ref 120, .ref 121, .ref 122, .ref 123, .ref 124, .ref 125, .ref 126, .ref 127, .ref 128, .ref 129, .ref 130, .ref 131, .ref 132, .ref 133, .ref 134, .ref 135, .ref 136, .ref 137, .ref 138, .ref 139, .ref 140, .ref 141, .ref 142, .ref 143, .ref 144, .ref 145, .ref 146, .ref 147, .ref 148, .ref 149, .ref 150, .ref 151, .ref 152, .ref 153, .ref 154, .ref 155, .ref 156, .ref 157, .ref 158, .ref 159, .ref 160, .ref 161, .ref 162, .ref 163, .ref 164, .ref 165, .ref 166, .ref 167, .ref 168, .ref 169, .ref 170, .ref 171, .ref 172, .ref 173, .ref 174, .ref 175, .ref 176, .ref 177, .ref 178, .ref 179, .ref 180, .ref 181, .ref 182, .ref 183, .ref 184, .ref 185, .ref 186, .ref 187, .ref 188, .ref 189, .ref 190, .ref 191, .ref 192, .ref 193, .ref 194, .ref 195, .ref 196, .ref 197, .ref 198, .ref 199, .ref 200, .ref 201, .ref 202, .ref 203, .ref 204, .ref 205, .ref 206, .ref 207, .ref 208, .ref 209, .ref 210, .ref 211, .ref 212, .ref 213, .ref 214, .ref 215, .ref 216, .ref 217, .ref 218, .ref 219, .ref 220, .ref 221, .ref 222, .ref 223, .ref 224, .ref 225, .ref 226, .ref 227, .ref 228, .ref 229, .ref 230, .ref 231, .ref 232, .ref 233, .ref 234, .ref 235, .ref 236, .ref 237, .ref 238, .ref 239, .ref 240, .ref 241, .ref 242, .ref 243, .ref 244, .ref 245, .ref 246, .ref 247, .ref 248, .ref 249, .ref 250, .ref 251, .ref 252, .ref 253, .ref 254, .ref 255, .ref 256, .ref 257, .ref 258], vm := .none },
  { cls := 17, slots := #[.long (-128)], vm := .none },
  { cls := 17, slots := #[.long (-127)], vm := .none },
  { cls := 17, slots := #[.long (-126)], vm := .none },
  { cls := 17, slots := #[.long (-125)], vm := .none },
  { cls := 17, slots := #[.long (-124)], vm := .none },
  { cls := 17, slots := #[.long (-123)], vm := .none },
  { cls := 17, slots := #[.long (-122)], vm := .none },
  { cls := 17, slots := #[.long (-121)], vm := .none },
  { cls := 17, slots := #[.long (-120)], vm := .none },
  { cls := 17, slots := #[.long (-119)], vm := .none },
  { cls := 17, slots := #[.long (-118)], vm := .none },
  { cls := 17, slots := #[.long (-117)], vm := .none },
  { cls := 17, slots := #[.long (-116)], vm := .none },
  { cls := 17, slots := #[.long (-115)], vm := .none },
  { cls := 17, slots := #[.long (-114)], vm := .none },
  { cls := 17, slots := #[.long (-113)], vm := .none },
  { cls := 17, slots := #[.long (-112)], vm := .none },
  { cls := 17, slots := #[.long (-111)], vm := .none },
  { cls := 17, slots := #[.long (-110)], vm := .none },
  { cls := 17, slots := #[.long (-109)], vm := .none },
  { cls := 17, slots := #[.long (-108)], vm := .none },
  { cls := 17, slots := #[.long (-107)], vm := .none },
  { cls := 17, slots := #[.long (-106)], vm := .none },
  { cls := 17, slots := #[.long (-105)], vm := .none },
  { cls := 17, slots := #[.long (-104)], vm := .none },
  { cls := 17, slots := #[.long (-103)], vm := .none },
  { cls := 17, slots := #[.long (-102)], vm := .none },
  { cls := 17, slots := #[.long (-101)], vm := .none },
  { cls := 17, slots := #[.long (-100)], vm := .none },
  { cls := 17, slots := #[.long (-99)], vm := .none },
  { cls := 17, slots := #[.long (-98)], vm := .none },
  { cls := 17, slots := #[.long (-97)], vm := .none },
  { cls := 17, slots := #[.long (-96)], vm := .none },
  { cls := 17, slots := #[.long (-95)], vm := .none },
  { cls := 17, slots := #[.long (-94)], vm := .none },
  { cls := 17, slots := #[.long (-93)], vm := .none },
  { cls := 17, slots := #[.long (-92)], vm := .none },
  { cls := 17, slots := #[.long (-91)], vm := .none },
  { cls := 17, slots := #[.long (-90)], vm := .none },
  { cls := 17, slots := #[.long (-89)], vm := .none },
  { cls := 17, slots := #[.long (-88)], vm := .none },
  { cls := 17, slots := #[.long (-87)], vm := .none },
  { cls := 17, slots := #[.long (-86)], vm := .none },
  { cls := 17, slots := #[.long (-85)], vm := .none },
  { cls := 17, slots := #[.long (-84)], vm := .none },
  { cls := 17, slots := #[.long (-83)], vm := .none },
  { cls := 17, slots := #[.long (-82)], vm := .none },
  { cls := 17, slots := #[.long (-81)], vm := .none },
  { cls := 17, slots := #[.long (-80)], vm := .none },
  { cls := 17, slots := #[.long (-79)], vm := .none },
  { cls := 17, slots := #[.long (-78)], vm := .none },
  { cls := 17, slots := #[.long (-77)], vm := .none },
  { cls := 17, slots := #[.long (-76)], vm := .none },
  { cls := 17, slots := #[.long (-75)], vm := .none },
  { cls := 17, slots := #[.long (-74)], vm := .none },
  { cls := 17, slots := #[.long (-73)], vm := .none },
  { cls := 17, slots := #[.long (-72)], vm := .none },
  { cls := 17, slots := #[.long (-71)], vm := .none },
  { cls := 17, slots := #[.long (-70)], vm := .none },
  { cls := 17, slots := #[.long (-69)], vm := .none },
  { cls := 17, slots := #[.long (-68)], vm := .none },
  { cls := 17, slots := #[.long (-67)], vm := .none },
  { cls := 17, slots := #[.long (-66)], vm := .none },
  { cls := 17, slots := #[.long (-65)], vm := .none },
  { cls := 17, slots := #[.long (-64)], vm := .none },
  { cls := 17, slots := #[.long (-63)], vm := .none },
  { cls := 17, slots := #[.long (-62)], vm := .none },
  { cls := 17, slots := #[.long (-61)], vm := .none },
  { cls := 17, slots := #[.long (-60)], vm := .none },
  { cls := 17, slots := #[.long (-59)], vm := .none },
  { cls := 17, slots := #[.long (-58)], vm := .none },
  { cls := 17, slots := #[.long (-57)], vm := .none },
  { cls := 17, slots := #[.long (-56)], vm := .none },
  { cls := 17, slots := #[.long (-55)], vm := .none },
  { cls := 17, slots := #[.long (-54)], vm := .none },
  { cls := 17, slots := #[.long (-53)], vm := .none },
  { cls := 17, slots := #[.long (-52)], vm := .none },
  { cls := 17, slots := #[.long (-51)], vm := .none },
  { cls := 17, slots := #[.long (-50)], vm := .none },
  { cls := 17, slots := #[.long (-49)], vm := .none },
  { cls := 17, slots := #[.long (-48)], vm := .none },
  { cls := 17, slots := #[.long (-47)], vm := .none },
  { cls := 17, slots := #[.long (-46)], vm := .none },
  { cls := 17, slots := #[.long (-45)], vm := .none },
  { cls := 17, slots := #[.long (-44)], vm := .none },
  { cls := 17, slots := #[.long (-43)], vm := .none },
  { cls := 17, slots := #[.long (-42)], vm := .none },
  { cls := 17, slots := #[.long (-41)], vm := .none },
  { cls := 17, slots := #[.long (-40)], vm := .none },
  { cls := 17, slots := #[.long (-39)], vm := .none },
  { cls := 17, slots := #[.long (-38)], vm := .none },
  { cls := 17, slots := #[.long (-37)], vm := .none },
  { cls := 17, slots := #[.long (-36)], vm := .none },
  { cls := 17, slots := #[.long (-35)], vm := .none },
  { cls := 17, slots := #[.long (-34)], vm := .none },
  { cls := 17, slots := #[.long (-33)], vm := .none },
  { cls := 17, slots := #[.long (-32)], vm := .none },
  { cls := 17, slots := #[.long (-31)], vm := .none },
  { cls := 17, slots := #[.long (-30)], vm := .none },
  { cls := 17, slots := #[.long (-29)], vm := .none },
  { cls := 17, slots := #[.long (-28)], vm := .none },
  { cls := 17, slots := #[.long (-27)], vm := .none },
  { cls := 17, slots := #[.long (-26)], vm := .none },
  { cls := 17, slots := #[.long (-25)], vm := .none },
  { cls := 17, slots := #[.long (-24)], vm := .none },
  { cls := 17, slots := #[.long (-23)], vm := .none },
  { cls := 17, slots := #[.long (-22)], vm := .none },
  { cls := 17, slots := #[.long (-21)], vm := .none },
  { cls := 17, slots := #[.long (-20)], vm := .none },
  { cls := 17, slots := #[.long (-19)], vm := .none },
  { cls := 17, slots := #[.long (-18)], vm := .none },
  { cls := 17, slots := #[.long (-17)], vm := .none },
  { cls := 17, slots := #[.long (-16)], vm := .none },
  { cls := 17, slots := #[.long (-15)], vm := .none },
  { cls := 17, slots := #[.long (-14)], vm := .none },
  { cls := 17, slots := #[.long (-13)], vm := .none },
  { cls := 17, slots := #[.long (-12)], vm := .none },
  { cls := 17, slots := #[.long (-11)], vm := .none },
  { cls := 17, slots := #[.long (-10)], vm := .none },
  { cls := 17, slots := #[.long (-9)], vm := .none },
  { cls := 17, slots := #[.long (-8)], vm := .none },
  { cls := 17, slots := #[.long (-7)], vm := .none },
  { cls := 17, slots := #[.long (-6)], vm := .none },
  { cls := 17, slots := #[.long (-5)], vm := .none },
  { cls := 17, slots := #[.long (-4)], vm := .none },
  { cls := 17, slots := #[.long (-3)], vm := .none },
  { cls := 17, slots := #[.long (-2)], vm := .none },
  { cls := 17, slots := #[.long (-1)], vm := .none },
  { cls := 17, slots := #[.long (0)], vm := .none },
  { cls := 17, slots := #[.long (1)], vm := .none },
  { cls := 17, slots := #[.long (2)], vm := .none },
  { cls := 17, slots := #[.long (3)], vm := .none },
  { cls := 17, slots := #[.long (4)], vm := .none },
  { cls := 17, slots := #[.long (5)], vm := .none },
  { cls := 17, slots := #[.long (6)], vm := .none },
  { cls := 17, slots := #[.long (7)], vm := .none },
  { cls := 17, slots := #[.long (8)], vm := .none },
  { cls := 17, slots := #[.long (9)], vm := .none },
  { cls := 17, slots := #[.long (10)], vm := .none },
  { cls := 17, slots := #[.long (11)], vm := .none },
  { cls := 17, slots := #[.long (12)], vm := .none },
  { cls := 17, slots := #[.long (13)], vm := .none },
  { cls := 17, slots := #[.long (14)], vm := .none },
  { cls := 17, slots := #[.long (15)], vm := .none },
  { cls := 17, slots := #[.long (16)], vm := .none },
  { cls := 17, slots := #[.long (17)], vm := .none },
  { cls := 17, slots := #[.long (18)], vm := .none },
  { cls := 17, slots := #[.long (19)], vm := .none },
  { cls := 17, slots := #[.long (20)], vm := .none },
  { cls := 17, slots := #[.long (21)], vm := .none },
  { cls := 17, slots := #[.long (22)], vm := .none },
  { cls := 17, slots := #[.long (23)], vm := .none },
  { cls := 17, slots := #[.long (24)], vm := .none },
  { cls := 17, slots := #[.long (25)], vm := .none },
  { cls := 17, slots := #[.long (26)], vm := .none },
  { cls := 17, slots := #[.long (27)], vm := .none },
  { cls := 17, slots := #[.long (28)], vm := .none },
  { cls := 17, slots := #[.long (29)], vm := .none },
  { cls := 17, slots := #[.long (30)], vm := .none },
  { cls := 17, slots := #[.long (31)], vm := .none },
  { cls := 17, slots := #[.long (32)], vm := .none },
  { cls := 17, slots := #[.long (33)], vm := .none },
  { cls := 17, slots := #[.long (34)], vm := .none },
  { cls := 17, slots := #[.long (35)], vm := .none },
  { cls := 17, slots := #[.long (36)], vm := .none },
  { cls := 17, slots := #[.long (37)], vm := .none },
  { cls := 17, slots := #[.long (38)], vm := .none },
  { cls := 17, slots := #[.long (39)], vm := .none },
  { cls := 17, slots := #[.long (40)], vm := .none },
  { cls := 17, slots := #[.long (41)], vm := .none },
  { cls := 17, slots := #[.long (42)], vm := .none },
  { cls := 17, slots := #[.long (43)], vm := .none },
  { cls := 17, slots := #[.long (44)], vm := .none },
  { cls := 17, slots := #[.long (45)], vm := .none },
  { cls := 17, slots := #[.long (46)], vm := .none },
  { cls := 17, slots := #[.long (47)], vm := .none },
  { cls := 17, slots := #[.long (48)], vm := .none },
  { cls := 17, slots := #[.long (49)], vm := .none },
  { cls := 17, slots := #[.long (50)], vm := .none },
  { cls := 17, slots := #[.long (51)], vm := .none },
  { cls := 17, slots := #[.long (52)], vm := .none },
  { cls := 17, slots := #[.long (53)], vm := .none },
  { cls := 17, slots := #[.long (54)], vm := .none },
  { cls := 17, slots := #[.long (55)], vm := .none },
  { cls := 17, slots := #[.long (56)], vm := .none },
  { cls := 17, slots := #[.long (57)], vm := .none },
  { cls := 17, slots := #[.long (58)], vm := .none },
  { cls := 17, slots := #[.long (59)], vm := .none },
  { cls := 17, slots := #[.long (60)], vm := .none },
  { cls := 17, slots := #[.long (61)], vm := .none },
  { cls := 17, slots := #[.long (62)], vm := .none },
  { cls := 17, slots := #[.long (63)], vm := .none },
  { cls := 17, slots := #[.long (64)], vm := .none },
  { cls := 17, slots := #[.long (65)], vm := .none },
  { cls := 17, slots := #[.long (66)], vm := .none },
  { cls := 17, slots := #[.long (67)], vm := .none },
  { cls := 17, slots := #[.long (68)], vm := .none },
  { cls := 17, slots := #[.long (69)], vm := .none },
  { cls := 17, slots := #[.long (70)], vm := .none },
  { cls := 17, slots := #[.long (71)], vm := .none },
  { cls := 17, slots := #[.long (72)], vm := .none },
  { cls := 17, slots := #[.long (73)], vm := .none },
  { cls := 17, slots := #[.long (74)], vm := .none },
  { cls := 17, slots := #[.long (75)], vm := .none },
  { cls := 17, slots := #[.long (76)], vm := .none },
  { cls := 17, slots := #[.long (77)], vm := .none },
  { cls := 17, slots := #[.long (78)], vm := .none },
  { cls := 17, slots := #[.long (79)], vm := .none },
  { cls := 17, slots := #[.long (80)], vm := .none },
  { cls := 17, slots := #[.long (81)], vm := .none },
  { cls := 17, slots := #[.long (82)], vm := .none },
  { cls := 17, slots := #[.long (83)], vm := .none },
  { cls := 17, slots := #[.long (84)], vm := .none },
  { cls := 17, slots := #[.long (85)], vm := .none },
  { cls := 17, slots := #[.long (86)], vm := .none },
  { cls := 17, slots := #[.long (87)], vm := .none },
  { cls := 17, slots := #[.long (88)], vm := .none },
  { cls := 17, slots := #[.long (89)], vm := .none },
  { cls := 17, slots := #[.long (90)], vm := .none },
  { cls := 17, slots := #[.long (91)], vm := .none },
  { cls := 17, slots := #[.long (92)], vm := .none },
  { cls := 17, slots := #[.long (93)], vm := .none },
  { cls := 17, slots := #[.long (94)], vm := .none },
  { cls := 17, slots := #[.long (95)], vm := .none },
  { cls := 17, slots := #[.long (96)], vm := .none },
  { cls := 17, slots := #[.long (97)], vm := .none },
  { cls := 17, slots := #[.long (98)], vm := .none },
  { cls := 17, slots := #[.long (99)], vm := .none },
  { cls := 17, slots := #[.long (100)], vm := .none },
  { cls := 17, slots := #[.long (101)], vm := .none },
  { cls := 17, slots := #[.long (102)], vm := .none },
  { cls := 17, slots := #[.long (103)], vm := .none },
  { cls := 17, slots := #[.long (104)], vm := .none },
  { cls := 17, slots := #[.long (105)], vm := .none },
  { cls := 17, slots := #[.long (106)], vm := .none },
  { cls := 17, slots := #[.long (107)], vm := .none },
  { cls := 17, slots := #[.long (108)], vm := .none },
  { cls := 17, slots := #[.long (109)], vm := .none },
  { cls := 17, slots := #[.long (110)], vm := .none },
  { cls := 17, slots := #[.long (111)], vm := .none },
  { cls := 17, slots := #[.long (112)], vm := .none },
  { cls := 17, slots := #[.long (113)], vm := .none },
  { cls := 17, slots := #[.long (114)], vm := .none },
  { cls := 17, slots := #[.long (115)], vm := .none },
  { cls := 17, slots := #[.long (116)], vm := .none },
  { cls := 17, slots := #[.long (117)], vm := .none },
  { cls := 17, slots := #[.long (118)], vm := .none },
  { cls := 17, slots := #[.long (119)], vm := .none },
  { cls := 17, slots := #[.long (120)], vm := .none },
  { cls := 17, slots := #[.long (121)], vm := .none },
  { cls := 17, slots := #[.long (122)], vm := .none },
  { cls := 17, slots := #[.long (123)], vm := .none },
  { cls := 17, slots := #[.long (124)], vm := .none },
  { cls := 17, slots := #[.long (125)], vm := .none },
  { cls := 17, slots := #[.long (126)], vm := .none },
  { cls := 17, slots := #[.long (127)], vm := .none },
  { cls := 27, slots := #[], vm := .none },
  { cls := 27, slots := #[], vm := .none }]
def classes : Array Class := #[k0, k1, k2, k3, k4, k5, k6, k7, k8, k9, k10, k11, k12, k13, k14, k15, k16, k17, k18, k19, k20, k21, k22, k23, k24, k25, k26, k27]
def interned : List (Array UInt16 × Addr) := []
def slotsUsed : Nat := 519
def theMethod : MethodId := ⟨1, 1⟩
def args0 : Array Value := #[.int 3, .long 5, .long 300, .long 7]
def aboutOver (below : List Frame) : State where
  vm := { classes := classes, interned := interned.toArray }
  heap := heap
  slotsUsed := slotsUsed
  threads := #[{ frames := .invoking theMethod args0 :: below }]
def below0 : List Frame := [.native { method := ⟨0, 0⟩, args := #[] }]
def about1 : State := aboutOver below0
def p0 : Program := .bare "" "" ""
def e0 : Env := launch0.env 0 0 0
theorem w_frames : about1.frames = Frame.invoking theMethod args0 :: below0 := rfl
set_option maxRecDepth 65536 in
theorem w_args : argsFit about1.vm theMethod args0 = true := by decide +kernel
set_option maxRecDepth 65536 in
theorem w_heap : heapFits about1 = true := by decide +kernel
set_option maxRecDepth 65536 in
theorem w_runnable : about1.curStatus? = some .runnable := by decide +kernel
set_option maxRecDepth 65536 in
theorem w_alone : about1.alone = true := by decide +kernel
set_option maxRecDepth 65536 in
theorem w_named : about1.methodNamed? x = some theMethod := by decide +kernel
set_option maxRecDepth 65536 in
theorem w_hears : about1.hears theMethod below0 = true := by decide +kernel
set_option maxRecDepth 65536 in
theorem w_ripe : about1.ripe theMethod args0 below0 = true := by decide +kernel
theorem w_running : about1.status = .running := rfl
set_option maxRecDepth 65536 in
theorem w_room : about1.hasRoom e0.platform room_1 = true :=
  launch0.hasRoom_least _ room_1 (by decide +kernel) (by decide +kernel) (by decide +kernel) (by decide +kernel) (by decide +kernel) (by decide +kernel)
theorem allAtoms_all (ts : List Jvm.Cond) (a : Array Jvm.Value) (st : Jvm.State) : (allAtoms ts).before a st = ts.all (fun c => c.before a st) := by
  induction ts with
  | nil => rfl
  | cons c t ih =>
    show (Jvm.Cond.and c (allAtoms t)).before a st = _
    rw [Jvm.Cond.before_and, ih, List.all_cons]
def words1 : List Jvm.Cond := Jvm.Cond.code x code maxLocals ret :: tables_1
/-- a 'code' word, met by the world's own term for the bytes: nothing is compared byte by byte -/
theorem code_word {y : MethodName} {bytes : ByteArray} {mx : Nat} {rt : Option FieldType} {a : Array Value} {s : State} {m : MethodId} {meth : Method} {c : Code} (h1 : s.methodNamed? y = some m) (h2 : s.vm.method? m = some meth) (h3 : meth.code = some c) (h4 : c.code = bytes)
    (h5 : (c.maxLocals == mx && c.exceptionTable.isEmpty && decide (c.maxStack ≤ mostOperands) && decide (meth.sig.returnType = rt) && !meth.locks && decide (parseMethodDescriptor y.desc = some meth.sig)) = true) : (Jvm.Cond.code y bytes mx rt).before a s = true := by
  simp only [Bool.and_eq_true, beq_iff_eq, Bool.not_eq_true', decide_eq_true_eq] at h5
  obtain ⟨⟨⟨⟨⟨g1, g2⟩, g3⟩, g4⟩, g5⟩, g6⟩ := h5
  simp [Cond.before, Cond.holds, Cond.value, h1, h2, h3, h4, g1, g2, g3, g4, g5, g6]
def isCode : Jvm.Cond → Bool
  | .code _ _ _ _ => true
  | _ => false
theorem all_split {L : List Jvm.Cond} {P : Jvm.Cond → Bool} (h1 : L.all (fun c => isCode c || P c) = true) (h2 : ∀ c ∈ L.filter isCode, P c = true) : L.all P = true := by
  refine List.all_eq_true.mpr fun c hc => ?_
  have h := List.all_eq_true.mp h1 c hc
  rcases Bool.eq_false_or_eq_true (isCode c) with hi | hi
  · exact h2 c (List.mem_filter.mpr ⟨hc, hi⟩)
  · simpa [hi] using h
set_option maxRecDepth 65536 in
theorem w_c0 : (Jvm.Cond.code x code maxLocals ret).before args0 about1 = true := code_word (m := ⟨1, 1⟩) (meth := k1m1) (c := k1c1) (by decide +kernel) rfl rfl rfl (by decide +kernel)
set_option maxRecDepth 65536 in
theorem w_c1 : (Jvm.Cond.code ({ cls := "java/util/ArrayList", name := "<init>", desc := "()V" } : Jvm.MethodName) jdk_38_method_2_code (1 : Nat) (Option.none : Option Jvm.ClassFile.FieldType)).before args0 about1 = true := code_word (m := ⟨11, 0⟩) (meth := k11m0) (c := k11c0) (by decide +kernel) rfl rfl rfl (by decide +kernel)
set_option maxRecDepth 65536 in
theorem w_c2 : (Jvm.Cond.code ({ cls := "java/util/AbstractList", name := "<init>", desc := "()V" } : Jvm.MethodName) jdk_39_method_1_code (1 : Nat) (Option.none : Option Jvm.ClassFile.FieldType)).before args0 about1 = true := code_word (m := ⟨7, 0⟩) (meth := k7m0) (c := k7c0) (by decide +kernel) rfl rfl rfl (by decide +kernel)
set_option maxRecDepth 65536 in
theorem w_c3 : (Jvm.Cond.code ({ cls := "java/util/AbstractCollection", name := "<init>", desc := "()V" } : Jvm.MethodName) jdk_22_method_1_code (1 : Nat) (Option.none : Option Jvm.ClassFile.FieldType)).before args0 about1 = true := code_word (m := ⟨4, 0⟩) (meth := k4m0) (c := k4c0) (by decide +kernel) rfl rfl rfl (by decide +kernel)
set_option maxRecDepth 65536 in
theorem w_c4 : (Jvm.Cond.code ({ cls := "java/lang/Object", name := "<init>", desc := "()V" } : Jvm.MethodName) object_method_1_code (1 : Nat) (Option.none : Option Jvm.ClassFile.FieldType)).before args0 about1 = true := code_word (m := ⟨0, 0⟩) (meth := k0m0) (c := k0c0) (by decide +kernel) rfl rfl rfl (by decide +kernel)
set_option maxRecDepth 65536 in
theorem w_c5 : (Jvm.Cond.code ({ cls := "com/example/limpet/limpet/RedisBackend$Acknowledged", name := "notAsked", desc := "(Ljava/util/List;)Lcom/example/limpet/limpet/RedisBackend$Acknowledged;" } : Jvm.MethodName) prog_15_method_2_code (1 : Nat) (Option.some (Jvm.ClassFile.FieldType.object "com/example/limpet/limpet/RedisBackend$Acknowledged"))).before args0 about1 = true := code_word (m := ⟨12, 1⟩) (meth := k12m1) (c := k12c1) (by decide +kernel) rfl rfl rfl (by decide +kernel)
set_option maxRecDepth 65536 in
theorem w_c6 : (Jvm.Cond.code ({ cls := "com/example/limpet/limpet/RedisBackend$Acknowledged", name := "<init>", desc := "(Ljava/util/List;IJLjava/lang/RuntimeException;)V" } : Jvm.MethodName) prog_15_method_1_code (6 : Nat) (Option.none : Option Jvm.ClassFile.FieldType)).before args0 about1 = true := code_word (m := ⟨12, 0⟩) (meth := k12m0) (c := k12c0) (by decide +kernel) rfl rfl rfl (by decide +kernel)
set_option maxRecDepth 65536 in
theorem w_c7 : (Jvm.Cond.code ({ cls := "com/example/limpet/limpet/RedisBackend$Acknowledged", name := "reply", desc := "()Ljava/util/List;" } : Jvm.MethodName) prog_15_method_3_code (1 : Nat) (Option.some (Jvm.ClassFile.FieldType.object "java/util/List"))).before args0 about1 = true := code_word (m := ⟨12, 2⟩) (meth := k12m2) (c := k12c2) (by decide +kernel) rfl rfl rfl (by decide +kernel)
set_option maxRecDepth 65536 in
theorem w_c8 : (Jvm.Cond.code ({ cls := "java/util/ArrayList", name := "size", desc := "()I" } : Jvm.MethodName) jdk_38_method_8_code (1 : Nat) (Option.some Jvm.ClassFile.FieldType.int)).before args0 about1 = true := code_word (m := ⟨11, 3⟩) (meth := k11m3) (c := k11c3) (by decide +kernel) rfl rfl rfl (by decide +kernel)
set_option maxRecDepth 65536 in
theorem w_c9 : (Jvm.Cond.code ({ cls := "com/example/limpet/limpet/RedisBackend$Acknowledged", name := "asked", desc := "()I" } : Jvm.MethodName) prog_15_method_5_code (1 : Nat) (Option.some Jvm.ClassFile.FieldType.int)).before args0 about1 = true := code_word (m := ⟨12, 4⟩) (meth := k12m4) (c := k12c4) (by decide +kernel) rfl rfl rfl (by decide +kernel)
set_option maxRecDepth 65536 in
theorem w_c10 : (Jvm.Cond.code ({ cls := "com/example/limpet/limpet/RedisBackend$Acknowledged", name := "acknowledged", desc := "()J" } : Jvm.MethodName) prog_15_method_6_code (1 : Nat) (Option.some Jvm.ClassFile.FieldType.long)).before args0 about1 = true := code_word (m := ⟨12, 5⟩) (meth := k12m5) (c := k12c5) (by decide +kernel) rfl rfl rfl (by decide +kernel)
set_option maxRecDepth 65536 in
theorem w_c11 : (Jvm.Cond.code ({ cls := "com/example/limpet/limpet/RedisBackend$Acknowledged", name := "failure", desc := "()Ljava/lang/RuntimeException;" } : Jvm.MethodName) prog_15_method_7_code (1 : Nat) (Option.some (Jvm.ClassFile.FieldType.object "java/lang/RuntimeException"))).before args0 about1 = true := code_word (m := ⟨12, 6⟩) (meth := k12m6) (c := k12c6) (by decide +kernel) rfl rfl rfl (by decide +kernel)
set_option maxRecDepth 65536 in
theorem w_c12 : (Jvm.Cond.code ({ cls := "com/example/limpet/limpet/RedisBackend$Acknowledged", name := "counts", desc := "()Z" } : Jvm.MethodName) prog_15_method_4_code (1 : Nat) (Option.some Jvm.ClassFile.FieldType.boolean)).before args0 about1 = true := code_word (m := ⟨12, 3⟩) (meth := k12m3) (c := k12c3) (by decide +kernel) rfl rfl rfl (by decide +kernel)
set_option maxRecDepth 65536 in
theorem w_c13 : (Jvm.Cond.code ({ cls := "java/lang/Long", name := "valueOf", desc := "(J)Ljava/lang/Long;" } : Jvm.MethodName) jdk_35_method_24_code (3 : Nat) (Option.some (Jvm.ClassFile.FieldType.object "java/lang/Long"))).before args0 about1 = true := code_word (m := ⟨17, 0⟩) (meth := k17m0) (c := k17c0) (by decide +kernel) rfl rfl rfl (by decide +kernel)
set_option maxRecDepth 65536 in
theorem w_c14 : (Jvm.Cond.code ({ cls := "java/util/ArrayList", name := "add", desc := "(Ljava/lang/Object;)Z" } : Jvm.MethodName) jdk_38_method_25_code (2 : Nat) (Option.some Jvm.ClassFile.FieldType.boolean)).before args0 about1 = true := code_word (m := ⟨11, 7⟩) (meth := k11m7) (c := k11c7) (by decide +kernel) rfl rfl rfl (by decide +kernel)
set_option maxRecDepth 65536 in
theorem w_c15 : (Jvm.Cond.code ({ cls := "java/util/ArrayList", name := "add", desc := "(Ljava/lang/Object;[Ljava/lang/Object;I)V" } : Jvm.MethodName) jdk_38_method_24_code (4 : Nat) (Option.none : Option Jvm.ClassFile.FieldType)).before args0 about1 = true := code_word (m := ⟨11, 6⟩) (meth := k11m6) (c := k11c6) (by decide +kernel) rfl rfl rfl (by decide +kernel)
set_option maxRecDepth 65536 in
theorem w_c16 : (Jvm.Cond.code ({ cls := "java/util/ArrayList", name := "grow", desc := "()[Ljava/lang/Object;" } : Jvm.MethodName) jdk_38_method_7_code (1 : Nat) (Option.some (Jvm.ClassFile.FieldType.array (Jvm.ClassFile.FieldType.object "java/lang/Object")))).before args0 about1 = true := code_word (m := ⟨11, 2⟩) (meth := k11m2) (c := k11c2) (by decide +kernel) rfl rfl rfl (by decide +kernel)
set_option maxRecDepth 65536 in
theorem w_c17 : (Jvm.Cond.code ({ cls := "java/util/ArrayList", name := "grow", desc := "(I)[Ljava/lang/Object;" } : Jvm.MethodName) jdk_38_method_6_code (4 : Nat) (Option.some (Jvm.ClassFile.FieldType.array (Jvm.ClassFile.FieldType.object "java/lang/Object")))).before args0 about1 = true := code_word (m := ⟨11, 1⟩) (meth := k11m1) (c := k11c1) (by decide +kernel) rfl rfl rfl (by decide +kernel)
set_option maxRecDepth 65536 in
theorem w_c18 : (Jvm.Cond.code ({ cls := "java/lang/Math", name := "max", desc := "(II)I" } : Jvm.MethodName) jdk_29_method_65_code (2 : Nat) (Option.some Jvm.ClassFile.FieldType.int)).before args0 about1 = true := code_word (m := ⟨19, 1⟩) (meth := k19m1) (c := k19c1) (by decide +kernel) rfl rfl rfl (by decide +kernel)
set_option maxRecDepth 65536 in
theorem w_c19 : (Jvm.Cond.code ({ cls := "java/lang/Long", name := "<init>", desc := "(J)V" } : Jvm.MethodName) jdk_35_method_26_code (3 : Nat) (Option.none : Option Jvm.ClassFile.FieldType)).before args0 about1 = true := code_word (m := ⟨17, 1⟩) (meth := k17m1) (c := k17c1) (by decide +kernel) rfl rfl rfl (by decide +kernel)
set_option maxRecDepth 65536 in
theorem w_c20 : (Jvm.Cond.code ({ cls := "java/lang/Number", name := "<init>", desc := "()V" } : Jvm.MethodName) jdk_18_method_1_code (1 : Nat) (Option.none : Option Jvm.ClassFile.FieldType)).before args0 about1 = true := code_word (m := ⟨13, 0⟩) (meth := k13m0) (c := k13c0) (by decide +kernel) rfl rfl rfl (by decide +kernel)
set_option maxRecDepth 65536 in
theorem w_c21 : (Jvm.Cond.code ({ cls := "java/util/ArrayList", name := "get", desc := "(I)Ljava/lang/Object;" } : Jvm.MethodName) jdk_38_method_20_code (2 : Nat) (Option.some (Jvm.ClassFile.FieldType.object "java/lang/Object"))).before args0 about1 = true := code_word (m := ⟨11, 5⟩) (meth := k11m5) (c := k11c5) (by decide +kernel) rfl rfl rfl (by decide +kernel)
set_option maxRecDepth 65536 in
theorem w_c22 : (Jvm.Cond.code ({ cls := "java/util/Objects", name := "checkIndex", desc := "(II)I" } : Jvm.MethodName) jdk_31_method_17_code (2 : Nat) (Option.some Jvm.ClassFile.FieldType.int)).before args0 about1 = true := code_word (m := ⟨20, 1⟩) (meth := k20m1) (c := k20c1) (by decide +kernel) rfl rfl rfl (by decide +kernel)
set_option maxRecDepth 65536 in
theorem w_c23 : (Jvm.Cond.code ({ cls := "jdk/internal/util/Preconditions", name := "checkIndex", desc := "(IILjava/util/function/BiFunction;)I" } : Jvm.MethodName) jdk_41_method_11_code (3 : Nat) (Option.some Jvm.ClassFile.FieldType.int)).before args0 about1 = true := code_word (m := ⟨21, 1⟩) (meth := k21m1) (c := k21c1) (by decide +kernel) rfl rfl rfl (by decide +kernel)
set_option maxRecDepth 65536 in
theorem w_c24 : (Jvm.Cond.code ({ cls := "java/util/ArrayList", name := "elementData", desc := "(I)Ljava/lang/Object;" } : Jvm.MethodName) jdk_38_method_18_code (2 : Nat) (Option.some (Jvm.ClassFile.FieldType.object "java/lang/Object"))).before args0 about1 = true := code_word (m := ⟨11, 4⟩) (meth := k11m4) (c := k11c4) (by decide +kernel) rfl rfl rfl (by decide +kernel)
set_option maxRecDepth 65536 in
theorem w_c25 : (Jvm.Cond.code ({ cls := "java/lang/Long", name := "longValue", desc := "()J" } : Jvm.MethodName) jdk_35_method_31_code (1 : Nat) (Option.some Jvm.ClassFile.FieldType.long)).before args0 about1 = true := code_word (m := ⟨17, 2⟩) (meth := k17m2) (c := k17c2) (by decide +kernel) rfl rfl rfl (by decide +kernel)
def codes1 : List Jvm.Cond := [Jvm.Cond.code x code maxLocals ret, Jvm.Cond.code ({ cls := "java/util/ArrayList", name := "<init>", desc := "()V" } : Jvm.MethodName) jdk_38_method_2_code (1 : Nat) (Option.none : Option Jvm.ClassFile.FieldType), Jvm.Cond.code ({ cls := "java/util/AbstractList", name := "<init>", desc := "()V" } : Jvm.MethodName) jdk_39_method_1_code (1 : Nat) (Option.none : Option Jvm.ClassFile.FieldType), Jvm.Cond.code ({ cls := "java/util/AbstractCollection", name := "<init>", desc := "()V" } : Jvm.MethodName) jdk_22_method_1_code (1 : Nat) (Option.none : Option Jvm.ClassFile.FieldType), Jvm.Cond.code ({ cls := "java/lang/Object", name := "<init>", desc := "()V" } : Jvm.MethodName) object_method_1_code (1 : Nat) (Option.none : Option Jvm.ClassFile.FieldType), Jvm.Cond.code ({ cls := "com/example/limpet/limpet/RedisBackend$Acknowledged", name := "notAsked", desc := "(Ljava/util/List;)Lcom/example/limpet/limpet/RedisBackend$Acknowledged;" } : Jvm.MethodName) prog_15_method_2_code (1 : Nat) (Option.some (Jvm.ClassFile.FieldType.object "com/example/limpet/limpet/RedisBackend$Acknowledged")), Jvm.Cond.code ({ cls := "com/example/limpet/limpet/RedisBackend$Acknowledged", name := "<init>", desc := "(Ljava/util/List;IJLjava/lang/RuntimeException;)V" } : Jvm.MethodName) prog_15_method_1_code (6 : Nat) (Option.none : Option Jvm.ClassFile.FieldType), Jvm.Cond.code ({ cls := "com/example/limpet/limpet/RedisBackend$Acknowledged", name := "reply", desc := "()Ljava/util/List;" } : Jvm.MethodName) prog_15_method_3_code (1 : Nat) (Option.some (Jvm.ClassFile.FieldType.object "java/util/List")), Jvm.Cond.code ({ cls := "java/util/ArrayList", name := "size", desc := "()I" } : Jvm.MethodName) jdk_38_method_8_code (1 : Nat) (Option.some Jvm.ClassFile.FieldType.int), Jvm.Cond.code ({ cls := "com/example/limpet/limpet/RedisBackend$Acknowledged", name := "asked", desc := "()I" } : Jvm.MethodName) prog_15_method_5_code (1 : Nat) (Option.some Jvm.ClassFile.FieldType.int), Jvm.Cond.code ({ cls := "com/example/limpet/limpet/RedisBackend$Acknowledged", name := "acknowledged", desc := "()J" } : Jvm.MethodName) prog_15_method_6_code (1 : Nat) (Option.some Jvm.ClassFile.FieldType.long), Jvm.Cond.code ({ cls := "com/example/limpet/limpet/RedisBackend$Acknowledged", name := "failure", desc := "()Ljava/lang/RuntimeException;" } : Jvm.MethodName) prog_15_method_7_code (1 : Nat) (Option.some (Jvm.ClassFile.FieldType.object "java/lang/RuntimeException")), Jvm.Cond.code ({ cls := "com/example/limpet/limpet/RedisBackend$Acknowledged", name := "counts", desc := "()Z" } : Jvm.MethodName) prog_15_method_4_code (1 : Nat) (Option.some Jvm.ClassFile.FieldType.boolean), Jvm.Cond.code ({ cls := "java/lang/Long", name := "valueOf", desc := "(J)Ljava/lang/Long;" } : Jvm.MethodName) jdk_35_method_24_code (3 : Nat) (Option.some (Jvm.ClassFile.FieldType.object "java/lang/Long")), Jvm.Cond.code ({ cls := "java/util/ArrayList", name := "add", desc := "(Ljava/lang/Object;)Z" } : Jvm.MethodName) jdk_38_method_25_code (2 : Nat) (Option.some Jvm.ClassFile.FieldType.boolean), Jvm.Cond.code ({ cls := "java/util/ArrayList", name := "add", desc := "(Ljava/lang/Object;[Ljava/lang/Object;I)V" } : Jvm.MethodName) jdk_38_method_24_code (4 : Nat) (Option.none : Option Jvm.ClassFile.FieldType), Jvm.Cond.code ({ cls := "java/util/ArrayList", name := "grow", desc := "()[Ljava/lang/Object;" } : Jvm.MethodName) jdk_38_method_7_code (1 : Nat) (Option.some (Jvm.ClassFile.FieldType.array (Jvm.ClassFile.FieldType.object "java/lang/Object"))), Jvm.Cond.code ({ cls := "java/util/ArrayList", name := "grow", desc := "(I)[Ljava/lang/Object;" } : Jvm.MethodName) jdk_38_method_6_code (4 : Nat) (Option.some (Jvm.ClassFile.FieldType.array (Jvm.ClassFile.FieldType.object "java/lang/Object"))), Jvm.Cond.code ({ cls := "java/lang/Math", name := "max", desc := "(II)I" } : Jvm.MethodName) jdk_29_method_65_code (2 : Nat) (Option.some Jvm.ClassFile.FieldType.int), Jvm.Cond.code ({ cls := "java/lang/Long", name := "<init>", desc := "(J)V" } : Jvm.MethodName) jdk_35_method_26_code (3 : Nat) (Option.none : Option Jvm.ClassFile.FieldType), Jvm.Cond.code ({ cls := "java/lang/Number", name := "<init>", desc := "()V" } : Jvm.MethodName) jdk_18_method_1_code (1 : Nat) (Option.none : Option Jvm.ClassFile.FieldType), Jvm.Cond.code ({ cls := "java/util/ArrayList", name := "get", desc := "(I)Ljava/lang/Object;" } : Jvm.MethodName) jdk_38_method_20_code (2 : Nat) (Option.some (Jvm.ClassFile.FieldType.object "java/lang/Object")), Jvm.Cond.code ({ cls := "java/util/Objects", name := "checkIndex", desc := "(II)I" } : Jvm.MethodName) jdk_31_method_17_code (2 : Nat) (Option.some Jvm.ClassFile.FieldType.int), Jvm.Cond.code ({ cls := "jdk/internal/util/Preconditions", name := "checkIndex", desc := "(IILjava/util/function/BiFunction;)I" } : Jvm.MethodName) jdk_41_method_11_code (3 : Nat) (Option.some Jvm.ClassFile.FieldType.int), Jvm.Cond.code ({ cls := "java/util/ArrayList", name := "elementData", desc := "(I)Ljava/lang/Object;" } : Jvm.MethodName) jdk_38_method_18_code (2 : Nat) (Option.some (Jvm.ClassFile.FieldType.object "java/lang/Object")), Jvm.Cond.code ({ cls := "java/lang/Long", name := "longValue", desc := "()J" } : Jvm.MethodName) jdk_35_method_31_code (1 : Nat) (Option.some Jvm.ClassFile.FieldType.long)]
set_option maxRecDepth 65536 in
theorem codes_eq : words1.filter isCode = codes1 := rfl
theorem w_codes : ∀ c ∈ words1.filter isCode, c.before args0 about1 = true := by
  rw [codes_eq]
  intro c hc
  simp only [codes1, List.mem_cons, List.not_mem_nil, or_false] at hc
  rcases hc with rfl | rfl | rfl | rfl | rfl | rfl | rfl | rfl | rfl | rfl | rfl | rfl | rfl | rfl | rfl | rfl | rfl | rfl | rfl | rfl | rfl | rfl | rfl | rfl | rfl | rfl
  · exact w_c0
  · exact w_c1
  · exact w_c2
  · exact w_c3
  · exact w_c4
  · exact w_c5
  · exact w_c6
  · exact w_c7
  · exact w_c8
  · exact w_c9
  · exact w_c10
  · exact w_c11
  · exact w_c12
  · exact w_c13
  · exact w_c14
  · exact w_c15
  · exact w_c16
  · exact w_c17
  · exact w_c18
  · exact w_c19
  · exact w_c20
  · exact w_c21
  · exact w_c22
  · exact w_c23
  · exact w_c24
  · exact w_c25
set_option maxRecDepth 65536 in
theorem w_t1 : (words1.take 24).all (fun c => isCode c || c.before args0 about1) = true := by decide +kernel
set_option maxRecDepth 65536 in
theorem w_t2 : ((words1.drop 24).take 24).all (fun c => isCode c || c.before args0 about1) = true := by decide +kernel
set_option maxRecDepth 65536 in
theorem w_t3 : (((words1.drop 24).drop 24).take 24).all (fun c => isCode c || c.before args0 about1) = true := by decide +kernel
set_option maxRecDepth 65536 in
theorem w_t4 : ((((words1.drop 24).drop 24).drop 24).take 24).all (fun c => isCode c || c.before args0 about1) = true := by decide +kernel
set_option maxRecDepth 65536 in
theorem w_t5 : (((((words1.drop 24).drop 24).drop 24).drop 24).take 24).all (fun c => isCode c || c.before args0 about1) = true := by decide +kernel
set_option maxRecDepth 65536 in
theorem w_t6 : ((((((words1.drop 24).drop 24).drop 24).drop 24).drop 24).take 24).all (fun c => isCode c || c.before args0 about1) = true := by decide +kernel
set_option maxRecDepth 65536 in
theorem w_t7 : ((((((words1.drop 24).drop 24).drop 24).drop 24).drop 24).drop 24).all (fun c => isCode c || c.before args0 about1) = true := by decide +kernel
theorem w_tables : (allAtoms (Jvm.Cond.code x code maxLocals ret :: tables_1)).before args0 about1 = true := by
  rw [allAtoms_all]
  show words1.all (fun c => c.before args0 about1) = true
  refine all_split ?_ w_codes
  rw [← List.take_append_drop 24 words1, List.all_append, w_t1, ← List.take_append_drop 24 (words1.drop 24), List.all_append, w_t2, ← List.take_append_drop 24 ((words1.drop 24).drop 24), List.all_append, w_t3, ← List.take_append_drop 24 (((words1.drop 24).drop 24).drop 24), List.all_append, w_t4, ← List.take_append_drop 24 ((((words1.drop 24).drop 24).drop 24).drop 24), List.all_append, w_t5, ← List.take_append_drop 24 (((((words1.drop 24).drop 24).drop 24).drop 24).drop 24), List.all_append, w_t6, w_t7]
  rfl
set_option maxRecDepth 65536 in
theorem w_rest : rest_1_c.before args0 about1 = true := by decide +kernel
set_option maxRecDepth 65536 in
theorem w_case : (Jvm.Cond.and given_1 narrow_1).before args0 about1 = true := by decide +kernel
theorem w_applies : (headSpec (Jvm.Cond.code x code maxLocals ret :: tables_1) room_1).applies x e0.platform about1 = true :=
  (Spec.applies_iff w_frames).mpr ⟨w_running, w_runnable, w_alone, w_named, w_hears, w_ripe, w_room, w_tables⟩
theorem atStart : AtStart classFile x code maxLocals ret World_1 tables_1 room_1 Calls_1 rest_1 Pre_1 launch0 p0 e0 about1 theMethod args0 below0 :=
  ⟨lists_1, trivial, launch0.admits_env _ _ _, launch0.least_env, fairChoices_fair.cas, fairChoices_fair.clock, w_frames, w_args, w_heap, w_applies, trivial, w_rest, w_case⟩
end start1
theorem witness_1 : WitnessClaimed_1 := ⟨start1.p0, start1.e0, start1.about1, start1.theMethod, start1.args0, start1.below0, start1.atStart⟩
end Jvm.Pilot.@@N@@
