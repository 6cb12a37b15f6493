import JvmDerived
import JvmDerived.Pilot.@@N@@Statement
import JvmDerived.Pilot.@@N@@Code
set_option linter.unusedVariables false
set_option linter.unusedSimpArgs false
@@BLOCK:NumsL.lean.txt@@
namespace Jvm.RoadKit
open Sem ClassFile Op Lib Jvm.Stand Jvm.Free Jvm.LawKit
section Own
variable {p : Program} {l : Launch} {e : Env} {R : Room} {s : State} {m : MethodId} {args : Array Value} {below : List Frame} {meth : Method} {c : Code} {T T' : State} {locs : List Loc} {cells slots : Nat}
theorem retI (X : Stand p l e R s m args below meth c T locs cells slots) (hx : p.tables.exec = Jvm.exec) {pc : Nat} {Ls : Array Slot} {z : Int32} {rest : List Value} (hret : meth.sig.returnType = some .int) (hd : decode c.code pc = .ok (.ireturn, 1)) {fs : List Frame}
    (hl : ∀ (f : JFrame) (acts : List Action), f.method = m → f.locked = none → f.entered = [] → (doReturn e (T.setTop f) acts (some (.int z))).1 = T.setFrames fs) : Steps p.tables e below (T.setTop (mkF m pc Ls (.int z :: rest))) (T.setFrames fs) := by
  have hm' : T.vm.method? m = some meth := X.method'
  have hn : narrow .int (.int z) = .int z := rfl
  show Steps p.tables e below (T.setTop { method := m, pc := pc, locals := Ls, stack := _ :: rest, locked := none }) _
  jvm_step X.here [X.here.top, hx, hd, hm', hret, hn]
  first | (intro acts; rw [hl _ acts rfl rfl rfl]) | rw [hl _ _ rfl rfl rfl]
  exact Steps.refl _
/-- what is left of a walk: it comes to an end at which K holds -/
def own_Go (p : Program) (e : Env) (below : List Frame) (K : Outcome → State → Prop) (T : State) (g : JFrame) : Prop := ∃ s₂ o, Steps p.tables e below (T.setTop g) s₂ ∧ s₂.status = .running ∧ Ended s₂ below o ∧ K o s₂
def own_K (s : State) (Q : Option Value → Heap → List Loc → Prop) (C S : Nat) (o : Outcome) (U' : State) : Prop := ∃ v L, o = .returned v ∧ Q v U'.heap L ∧ FrameEnd s o U' L C S
variable {K : Outcome → State → Prop} {g g' : JFrame} {Q : Option Value → Heap → List Loc → Prop} {C S : Nat}
theorem own_st (st : ∀ target, Steps p.tables e below (T'.setTop g') target → Steps p.tables e below (T.setTop g) target) (k : own_Go p e below K T' g') : own_Go p e below K T g := by
  obtain ⟨s2, o, h1, h2⟩ := k
  exact ⟨s2, o, st _ h1, h2⟩
theorem own_tr (st : Steps p.tables e below (T.setTop g) (T'.setTop g')) (k : own_Go p e below K T' g') : own_Go p e below K T g := by
  obtain ⟨s2, o, h1, h2⟩ := k
  exact ⟨s2, o, st.trans h1, h2⟩
theorem own_end (X : Stand p l e R s m args below meth c T locs cells slots) (hlk : meth.locks = false) {v : Option Value} (hv : meth.sig.returnType = none → v = none)
    (hst : ∀ fs, (∀ (f : JFrame) (acts : List Action), f.method = m → f.locked = none → f.entered = [] → (doReturn e (T.setTop f) acts v).1 = T.setFrames fs) → Steps p.tables e below (T.setTop g) (T.setFrames fs)) (hc : cells ≤ C) (hs : slots ≤ S) (hQ : Q v T.heap locs) :
    own_Go p e below (own_K s Q C S) T g := by
  obtain ⟨fs, hr, hrun, hended, hW, hsame⟩ := X.leave (v := v) hv hlk
  exact ⟨_, _, hst fs hr, hrun, hended, _, _, rfl, hQ, ⟨_, rfl⟩, hW, hsame.mono hc hs⟩
theorem own_retI (X : Stand p l e R s m args below meth c T locs cells slots) (hx : p.tables.exec = Jvm.exec) (hlk : meth.locks = false) {pc : Nat} {Ls : Array Slot} {z : Int32} {rest : List Value} (hret : meth.sig.returnType = some .int) (hd : decode c.code pc = .ok (.ireturn, 1)) (hc : cells ≤ C) (hs : slots ≤ S) (hQ : Q (some (.int z)) T.heap locs) :
    own_Go p e below (own_K s Q C S) T (mkF m pc Ls (.int z :: rest)) := own_end X hlk (fun h => by rw [hret] at h; cases h) (fun fs hr => retI X hx hret hd hr) hc hs hQ
theorem own_retN (X : Stand p l e R s m args below meth c T locs cells slots) (hx : p.tables.exec = Jvm.exec) (hlk : meth.locks = false) {pc : Nat} {Ls : Array Slot} {z : Int32} {t : FieldType} {rest : List Value} (hret : meth.sig.returnType = some t) (ht : t = .boolean ∨ t = .byte ∨ t = .char ∨ t = .short) (hd : decode c.code pc = .ok (.ireturn, 1)) (hc : cells ≤ C) (hs : slots ≤ S) (hQ : Q (some (.int (nar t z))) T.heap locs) :
    own_Go p e below (own_K s Q C S) T (mkF m pc Ls (.int z :: rest)) := own_end X hlk (fun h => by rw [hret] at h; cases h) (fun fs hr => retN X hx hret ht hd hr) hc hs hQ
theorem own_retA (X : Stand p l e R s m args below meth c T locs cells slots) (hx : p.tables.exec = Jvm.exec) (hlk : meth.locks = false) {pc : Nat} {Ls : Array Slot} {v : Value} {t : FieldType} {rest : List Value} (hret : meth.sig.returnType = some t) (ht : t.isReference = true) (hv : v.isRef = true) (hd : decode c.code pc = .ok (.areturn, 1)) (hc : cells ≤ C) (hs : slots ≤ S) (hQ : Q (some v) T.heap locs) :
    own_Go p e below (own_K s Q C S) T (mkF m pc Ls (v :: rest)) := own_end X hlk (fun h => by rw [hret] at h; cases h) (fun fs hr => retOut X hx hret (by cases t <;> first | (cases ht; done) | (cases v <;> first | rfl | (cases hv; done))) (Or.inr (Or.inr (Or.inr (Or.inr ⟨rfl, ht, hv⟩)))) hd hr) hc hs hQ
theorem own_retL (X : Stand p l e R s m args below meth c T locs cells slots) (hx : p.tables.exec = Jvm.exec) (hlk : meth.locks = false) {pc : Nat} {Ls : Array Slot} {w : Int64} (hret : meth.sig.returnType = some .long) (hd : decode c.code pc = .ok (.lreturn, 1)) (hc : cells ≤ C) (hs : slots ≤ S) (hQ : Q (some (.long w)) T.heap locs) :
    own_Go p e below (own_K s Q C S) T (mkF m pc Ls [.long w]) := own_end X hlk (fun h => by rw [hret] at h; cases h) (fun fs hr => X.lreturnOut hx hret hd hr) hc hs hQ
theorem own_ret (X : Stand p l e R s m args below meth c T locs cells slots) (hx : p.tables.exec = Jvm.exec) (hlk : meth.locks = false) {pc : Nat} {Ls : Array Slot} (hret : meth.sig.returnType = none) (hd : decode c.code pc = .ok (.return_, 1)) (hc : cells ≤ C) (hs : slots ≤ S) (hQ : Q none T.heap locs) :
    own_Go p e below (own_K s Q C S) T (mkF m pc Ls []) := own_end X hlk (fun _ => rfl) (fun fs hr => X.returnOut hx hret hd hr) hc hs hQ
variable {Z : State} {h : Heap} {a : Addr} {k : ClassId} {ty : FieldType} {z j : Int32} {vs : List Value} {dv v : Value} {rest : List Value} {target : State}
theorem own_len (X : Stand p l e R s m args below meth c T locs cells slots) (hx : p.tables.exec = Jvm.exec) (hZ : Z.Warmed39 s.vm) (eT : T.heap = h) (F : Arv Z h a k ty z vs dv) (hg : g.method = m) (hs : g.stack = .ref a :: rest) (hd : decode c.code g.pc = .ok (.arraylength, 1))
    (hr : Steps p.tables e below (T.setTop { g with pc := g.pc + 1, stack := .int z :: rest }) target) : Steps p.tables e below (T.setTop g) target := by
  obtain ⟨cl, A, -, S, q, -, -⟩ := F
  refine X.arraylength hx (by rw [eT]; exact A.1) (State.isArrayOf_alike hZ.alike A.2.1) hg hs hd _ ?_
  rw [len_of S q]
  exact hr
theorem own_ldR (X : Stand p l e R s m args below meth c T locs cells slots) (hx : p.tables.exec = Jvm.exec) (hZ : Z.Warmed39 s.vm) (eT : T.heap = h) (F : Arv Z h a k ty z vs dv) (hty : ty.isReference = true) (hj : ¬ j < 0 ∧ j < z) (hv : vs.getD j.toNatClampNeg dv = v) (hg : g.method = m) (hs : g.stack = .int j :: .ref a :: rest) (hd : decode c.code g.pc = .ok (.aaload, 1))
    (hr : Steps p.tables e below (T.setTop { g with pc := g.pc + 1, stack := v :: rest }) target) : Steps p.tables e below (T.setTop g) target := by
  obtain ⟨cl, A, -, S, q, H, -⟩ := F
  exact X.aaload hx (by rw [eT]; exact A.1) (State.isArrayOf_alike hZ.alike A.2.1) hty A.2.2 (inb_of S hj) (H.at (inb_of S hj) hv) hg hs hd _ hr
theorem own_ldB (X : Stand p l e R s m args below meth c T locs cells slots) (hx : p.tables.exec = Jvm.exec) (hZ : Z.Warmed39 s.vm) (eT : T.heap = h) (F : Arv Z h a k .byte z vs dv) (hj : ¬ j < 0 ∧ j < z) (hv : vs.getD j.toNatClampNeg dv = v) (hg : g.method = m) (hs : g.stack = .int j :: .ref a :: rest) (hd : decode c.code g.pc = .ok (.baload, 1))
    (hr : Steps p.tables e below (T.setTop { g with pc := g.pc + 1, stack := v :: rest }) target) : Steps p.tables e below (T.setTop g) target := by
  obtain ⟨cl, A, -, S, q, H, -⟩ := F
  exact X.baloadBytes hx (by rw [eT]; exact A.1) (State.isArrayOf_alike hZ.alike A.2.1) A.2.2 (inb_of S hj) (H.at (inb_of S hj) hv) hg hs hd _ hr
theorem own_ldJ (X : Stand p l e R s m args below meth c T locs cells slots) (hx : p.tables.exec = Jvm.exec) (hZ : Z.Warmed39 s.vm) (eT : T.heap = h) (F : Arv Z h a k .long z vs dv) (hj : ¬ j < 0 ∧ j < z) (hv : vs.getD j.toNatClampNeg dv = v) (hg : g.method = m) (hs : g.stack = .int j :: .ref a :: rest) (hd : decode c.code g.pc = .ok (.laload, 1))
    (hr : Steps p.tables e below (T.setTop { g with pc := g.pc + 1, stack := v :: rest }) target) : Steps p.tables e below (T.setTop g) target := by
  obtain ⟨cl, A, -, S, q, H, -⟩ := F
  exact X.laload hx (by rw [eT]; exact A.1) (State.isArrayOf_alike hZ.alike A.2.1) A.2.2 (inb_of S hj) (H.at (inb_of S hj) hv) hg hs hd _ hr
theorem own_stB (X : Stand p l e R s m args below meth c T locs cells slots) (hx : p.tables.exec = Jvm.exec) (hZ : Z.Warmed39 s.vm) (eT : T.heap = h) (F : Arv Z h a k .byte z vs dv) {x : Int32} (hj : ¬ j < 0 ∧ j < z) (i : Nat) (hi : j.toNatClampNeg = i) (hl : i < vs.length) (hg : g.method = m) (hs : g.stack = .int x :: .int j :: .ref a :: rest) (hd : decode c.code g.pc = .ok (.bastore, 1)) :
    ∃ T' h', Stand p l e R s m args below meth c T' (locs ++ [⟨a, j.toNatClampNeg⟩]) cells slots ∧ T'.heap = h' ∧ Wr h h' a j.toNatClampNeg (.int (nar .byte x)) ∧ Arv Z h' a k .byte z (vs.set i (.int x.toInt8.toInt32)) dv ∧ ∀ target, Steps p.tables e below (T'.setTop { g with pc := g.pc + 1, stack := rest }) target → Steps p.tables e below (T.setTop g) target := by
  obtain ⟨cl, A, q1, S, q3, H, G⟩ := F
  obtain ⟨T', h', X', e', W, st⟩ := stB X hx hZ eT A (inb_of S hj) hg hs hd
  exact ⟨T', h', X', e', W, Arv.set A q1 S q3 H G (fits_nar_byte _) W i hi hl, st⟩
theorem own_pushB (X : Stand p l e R s m args below meth c T locs cells slots) (hx : p.tables.exec = Jvm.exec) (hZ : Z.Warmed39 s.vm) (eT : T.heap = h) (F : Arv Z h a k .byte z vs dv) {x : Int32} (hj : ¬ j < 0 ∧ j < z) (hi : j.toNatClampNeg = vs.length) (hg : g.method = m) (hs : g.stack = .int x :: .int j :: .ref a :: rest) (hd : decode c.code g.pc = .ok (.bastore, 1)) :
    ∃ T' h', Stand p l e R s m args below meth c T' (locs ++ [⟨a, j.toNatClampNeg⟩]) cells slots ∧ T'.heap = h' ∧ Wr h h' a j.toNatClampNeg (.int (nar .byte x)) ∧ Arv Z h' a k .byte z (vs ++ [.int x.toInt8.toInt32]) dv ∧ ∀ target, Steps p.tables e below (T'.setTop { g with pc := g.pc + 1, stack := rest }) target → Steps p.tables e below (T.setTop g) target := by
  have F' : Arv Z h a k .byte z (vs ++ List.replicate 1 dv) dv := F.pad (pad_rep vs dv 1)
  obtain ⟨cl, A, q1, S, q3, H, G⟩ := F'
  obtain ⟨T', h', X', e', W, st⟩ := stB X hx hZ eT A (inb_of S hj) hg hs hd
  have V := Arv.set A q1 S q3 H G (fits_nar_byte _) W vs.length hi (by simp)
  have e : (vs ++ List.replicate 1 dv).set vs.length (.int x.toInt8.toInt32) = vs ++ [.int x.toInt8.toInt32] := by simp
  exact ⟨T', h', X', e', W, e ▸ V, st⟩
theorem own_stJ (X : Stand p l e R s m args below meth c T locs cells slots) (hx : p.tables.exec = Jvm.exec) (hZ : Z.Warmed39 s.vm) (eT : T.heap = h) (F : Arv Z h a k .long z vs dv) {x : Int64} (hj : ¬ j < 0 ∧ j < z) (i : Nat) (hi : j.toNatClampNeg = i) (hl : i < vs.length) (hg : g.method = m) (hs : g.stack = .long x :: .int j :: .ref a :: rest) (hd : decode c.code g.pc = .ok (.lastore, 1)) :
    ∃ T' h', Stand p l e R s m args below meth c T' (locs ++ [⟨a, j.toNatClampNeg⟩]) cells slots ∧ T'.heap = h' ∧ Wr h h' a j.toNatClampNeg (.long x) ∧ Arv Z h' a k .long z (vs.set i (.long x)) dv ∧ ∀ target, Steps p.tables e below (T'.setTop { g with pc := g.pc + 1, stack := rest }) target → Steps p.tables e below (T.setTop g) target := by
  obtain ⟨cl, A, q1, S, q3, H, G⟩ := F
  obtain ⟨T', h', X', e', W, st⟩ := stJ X hx hZ eT A (inb_of S hj) hg hs hd
  exact ⟨T', h', X', e', W, Arv.set A q1 S q3 H G rfl W i hi hl, st⟩
theorem own_stR (X : Stand p l e R s m args below meth c T locs cells slots) (hx : p.tables.exec = Jvm.exec) (hZ : Z.Warmed39 s.vm) (eT : T.heap = h) {C : String} (F : Arv Z h a k (.object C) z vs dv) {b : Addr} (O : Ovr Z k C) (I : Ins Z h b C true) (hj : ¬ j < 0 ∧ j < z) (i : Nat) (hi : j.toNatClampNeg = i) (hl : i < vs.length) (hg : g.method = m) (hs : g.stack = .ref b :: .int j :: .ref a :: rest) (hd : decode c.code g.pc = .ok (.aastore, 1)) :
    ∃ T' h', Stand p l e R s m args below meth c T' (locs ++ [⟨a, j.toNatClampNeg⟩]) cells slots ∧ T'.heap = h' ∧ Wr h h' a j.toNatClampNeg (.ref b) ∧ Arv Z h' a k (.object C) z (vs.set i (.ref b)) dv ∧ ∀ target, Steps p.tables e below (T'.setTop { g with pc := g.pc + 1, stack := rest }) target → Steps p.tables e below (T.setTop g) target := by
  obtain ⟨cl, A, q1, S, q3, H, G⟩ := F
  obtain ⟨T', h', X', e', W, st⟩ := stR X hx hZ eT A (inb_of S hj) rfl (Sto.ofV A q1 O I) hg hs hd
  exact ⟨T', h', X', e', W, Arv.set A q1 S q3 H G rfl W i hi hl, st⟩
end Own
end Jvm.RoadKit
namespace Jvm.Pilot.@@N@@
open Jvm Jvm.ClassFile Sem Op Lib Jvm.Free Jvm.Stand Jvm.LawKit Jvm.RoadKit Bundle Jvm.Pilot.@@N@@.Jvm.D
theorem own_eq_int {args : Array Value} {first s : State} {o : Option Outcome} {idx : List Nat} {t : Term} {k : Int32} (h : (Cond.eq t (.int k)).value args first o s idx = some true) : t.eval args first o idx s = some (.int k) := by
  cases ht : t.eval args first o idx s with
  | none => simp [Cond.value, ht] at h
  | some x => cases x <;> simp [Cond.value, Term.eval, ht] at h ⊢; exact h
theorem own_eq_ref {args : Array Value} {first s : State} {o : Option Outcome} {idx : List Nat} {t u : Term} {a : Addr} (hu : u.eval args first o idx s = some (.ref a)) (h : (Cond.eq t u).value args first o s idx = some true) : t.eval args first o idx s = some (.ref a) := by
  cases ht : t.eval args first o idx s with
  | none => simp [Cond.value, ht] at h
  | some x => cases x <;> simp [Cond.value, ht, hu] at h ⊢; exact h
theorem own_arr_start {args : Array Value} {Z : State} {t : Term} {a : Addr} {ty : FieldType} {z : Int32} (ev : t.eval args Z none [] Z = some (.ref a)) (ha : (Cond.arrayOf t ty).value args Z none Z [] = some true) (hl : (Cond.eq (.length t) (.int z)).value args Z none Z [] = some true) : ∃ c, Arr Z Z.heap a c ty ∧ c.slots.size < 2 ^ 31 ∧ c.slots.size.toInt32 = z := by
  obtain ⟨c, A⟩ := Arr.start ev ha
  have hq := own_eq_int hl
  have hc : Z.arrayAt? a = some c := A.fin (Vm.Alike.refl _)
  refine ⟨c, A, ?_⟩
  simp only [Term.eval, ev, hc, Option.bind_eq_bind, Option.bind_some] at hq
  split at hq
  · rename_i hlt
    simp only [Option.pure_def, Option.some.injEq, Value.int.injEq] at hq
    exact ⟨hlt, hq⟩
  · cases hq
theorem own_pn0 : plainName "java/util/Arrays" = true := by first | (simp [plainName, overriddenIn]; done) | decide +kernel
theorem own_pn1 : plainName "jdk/internal/util/ArraysSupport" = true := by first | (simp [plainName, overriddenIn]; done) | decide +kernel
theorem own_pn2 : plainName "com/example/broken_to_found/brokentofound/watch/UrlList" = true := by first | (simp [plainName, overriddenIn]; done) | decide +kernel
theorem own_pn3 : plainName "com/example/broken_to_found/brokentofound/watch/UrlListByteOrderMarkLengthPinLaw" = true := by first | (simp [plainName, overriddenIn]; done) | decide +kernel
theorem own_pd0 : parseMethodDescriptor "(III)V" = some ⟨[.int, .int, .int], none⟩ := by decide +kernel
theorem own_pd1 : parseMethodDescriptor "([BI[BII)I" = some ⟨[.array .byte, .int, .array .byte, .int, .int], some .int⟩ := by decide +kernel
theorem own_pd2 : parseMethodDescriptor "([BII[BII)Z" = some ⟨[.array .byte, .int, .int, .array .byte, .int, .int], some .boolean⟩ := by decide +kernel
theorem own_pd3 : parseMethodDescriptor "([B)I" = some ⟨[.array .byte], some .int⟩ := by decide +kernel
theorem own_db_0 : decode prog_7_method_4_code 0 = .ok (.aload_n 0, 1) := by decide +kernel
theorem own_db_1 : decode prog_7_method_4_code 1 = .ok (.arraylength, 1) := by decide +kernel
theorem own_db_2 : decode prog_7_method_4_code 2 = .ok (.getstatic 95, 3) := by decide +kernel
theorem own_db_5 : decode prog_7_method_4_code 5 = .ok (.arraylength, 1) := by decide +kernel
theorem own_db_6 : decode prog_7_method_4_code 6 = .ok (.if_icmp .lt 27, 3) := by decide +kernel
theorem own_db_9 : decode prog_7_method_4_code 9 = .ok (.aload_n 0, 1) := by decide +kernel
theorem own_db_10 : decode prog_7_method_4_code 10 = .ok (.iconst 0, 1) := by decide +kernel
theorem own_db_11 : decode prog_7_method_4_code 11 = .ok (.getstatic 95, 3) := by decide +kernel
theorem own_db_14 : decode prog_7_method_4_code 14 = .ok (.arraylength, 1) := by decide +kernel
theorem own_db_15 : decode prog_7_method_4_code 15 = .ok (.getstatic 95, 3) := by decide +kernel
theorem own_db_18 : decode prog_7_method_4_code 18 = .ok (.iconst 0, 1) := by decide +kernel
theorem own_db_19 : decode prog_7_method_4_code 19 = .ok (.getstatic 95, 3) := by decide +kernel
theorem own_db_22 : decode prog_7_method_4_code 22 = .ok (.arraylength, 1) := by decide +kernel
theorem own_db_23 : decode prog_7_method_4_code 23 = .ok (.invokestatic 99, 3) := by decide +kernel
theorem own_db_26 : decode prog_7_method_4_code 26 = .ok (.ifCond .eq 7, 3) := by decide +kernel
theorem own_db_29 : decode prog_7_method_4_code 29 = .ok (.iconst 1, 1) := by decide +kernel
theorem own_db_30 : decode prog_7_method_4_code 30 = .ok (.goto 4, 3) := by decide +kernel
theorem own_db_33 : decode prog_7_method_4_code 33 = .ok (.iconst 0, 1) := by decide +kernel
theorem own_db_34 : decode prog_7_method_4_code 34 = .ok (.istore_n 1, 1) := by decide +kernel
theorem own_db_35 : decode prog_7_method_4_code 35 = .ok (.iload_n 1, 1) := by decide +kernel
theorem own_db_36 : decode prog_7_method_4_code 36 = .ok (.ifCond .eq 10, 3) := by decide +kernel
theorem own_db_39 : decode prog_7_method_4_code 39 = .ok (.getstatic 95, 3) := by decide +kernel
theorem own_db_42 : decode prog_7_method_4_code 42 = .ok (.arraylength, 1) := by decide +kernel
theorem own_db_43 : decode prog_7_method_4_code 43 = .ok (.goto 4, 3) := by decide +kernel
theorem own_db_46 : decode prog_7_method_4_code 46 = .ok (.iconst 0, 1) := by decide +kernel
theorem own_db_47 : decode prog_7_method_4_code 47 = .ok (.ireturn, 1) := by decide +kernel
theorem own_dq_0 : decode jdk_65_method_90_code 0 = .ok (.aload_n 0, 1) := by decide +kernel
theorem own_dq_1 : decode jdk_65_method_90_code 1 = .ok (.arraylength, 1) := by decide +kernel
theorem own_dq_2 : decode jdk_65_method_90_code 2 = .ok (.iload_n 1, 1) := by decide +kernel
theorem own_dq_3 : decode jdk_65_method_90_code 3 = .ok (.iload_n 2, 1) := by decide +kernel
theorem own_dq_4 : decode jdk_65_method_90_code 4 = .ok (.invokestatic 13, 3) := by decide +kernel
theorem own_dq_7 : decode jdk_65_method_90_code 7 = .ok (.aload_n 3, 1) := by decide +kernel
theorem own_dq_8 : decode jdk_65_method_90_code 8 = .ok (.arraylength, 1) := by decide +kernel
theorem own_dq_9 : decode jdk_65_method_90_code 9 = .ok (.iload 4, 2) := by decide +kernel
theorem own_dq_11 : decode jdk_65_method_90_code 11 = .ok (.iload 5, 2) := by decide +kernel
theorem own_dq_13 : decode jdk_65_method_90_code 13 = .ok (.invokestatic 13, 3) := by decide +kernel
theorem own_dq_16 : decode jdk_65_method_90_code 16 = .ok (.iload_n 2, 1) := by decide +kernel
theorem own_dq_17 : decode jdk_65_method_90_code 17 = .ok (.iload_n 1, 1) := by decide +kernel
theorem own_dq_18 : decode jdk_65_method_90_code 18 = .ok (.isub, 1) := by decide +kernel
theorem own_dq_19 : decode jdk_65_method_90_code 19 = .ok (.istore 6, 2) := by decide +kernel
theorem own_dq_21 : decode jdk_65_method_90_code 21 = .ok (.iload 5, 2) := by decide +kernel
theorem own_dq_23 : decode jdk_65_method_90_code 23 = .ok (.iload 4, 2) := by decide +kernel
theorem own_dq_25 : decode jdk_65_method_90_code 25 = .ok (.isub, 1) := by decide +kernel
theorem own_dq_26 : decode jdk_65_method_90_code 26 = .ok (.istore 7, 2) := by decide +kernel
theorem own_dq_28 : decode jdk_65_method_90_code 28 = .ok (.iload 6, 2) := by decide +kernel
theorem own_dq_30 : decode jdk_65_method_90_code 30 = .ok (.iload 7, 2) := by decide +kernel
theorem own_dq_32 : decode jdk_65_method_90_code 32 = .ok (.if_icmp .eq 5, 3) := by decide +kernel
theorem own_dq_37 : decode jdk_65_method_90_code 37 = .ok (.aload_n 0, 1) := by decide +kernel
theorem own_dq_38 : decode jdk_65_method_90_code 38 = .ok (.iload_n 1, 1) := by decide +kernel
theorem own_dq_39 : decode jdk_65_method_90_code 39 = .ok (.aload_n 3, 1) := by decide +kernel
theorem own_dq_40 : decode jdk_65_method_90_code 40 = .ok (.iload 4, 2) := by decide +kernel
theorem own_dq_42 : decode jdk_65_method_90_code 42 = .ok (.iload 6, 2) := by decide +kernel
theorem own_dq_44 : decode jdk_65_method_90_code 44 = .ok (.invokestatic 275, 3) := by decide +kernel
theorem own_dq_47 : decode jdk_65_method_90_code 47 = .ok (.ifCond .ge 7, 3) := by decide +kernel
theorem own_dq_50 : decode jdk_65_method_90_code 50 = .ok (.iconst 1, 1) := by decide +kernel
theorem own_dq_51 : decode jdk_65_method_90_code 51 = .ok (.goto 4, 3) := by decide +kernel
theorem own_dq_54 : decode jdk_65_method_90_code 54 = .ok (.iconst 0, 1) := by decide +kernel
theorem own_dq_55 : decode jdk_65_method_90_code 55 = .ok (.ireturn, 1) := by decide +kernel
theorem own_dr_0 : decode jdk_65_method_30_code 0 = .ok (.iload_n 1, 1) := by decide +kernel
theorem own_dr_1 : decode jdk_65_method_30_code 1 = .ok (.iload_n 2, 1) := by decide +kernel
theorem own_dr_2 : decode jdk_65_method_30_code 2 = .ok (.if_icmp .le 44, 3) := by decide +kernel
theorem own_dr_46 : decode jdk_65_method_30_code 46 = .ok (.iload_n 1, 1) := by decide +kernel
theorem own_dr_47 : decode jdk_65_method_30_code 47 = .ok (.ifCond .ge 12, 3) := by decide +kernel
theorem own_dr_59 : decode jdk_65_method_30_code 59 = .ok (.iload_n 2, 1) := by decide +kernel
theorem own_dr_60 : decode jdk_65_method_30_code 60 = .ok (.iload_n 0, 1) := by decide +kernel
theorem own_dr_61 : decode jdk_65_method_30_code 61 = .ok (.if_icmp .le 12, 3) := by decide +kernel
theorem own_dr_73 : decode jdk_65_method_30_code 73 = .ok (.return_, 1) := by decide +kernel
theorem own_dx_0 : decode jdk_48_method_14_code 0 = .ok (.iconst 0, 1) := by decide +kernel
theorem own_dx_1 : decode jdk_48_method_14_code 1 = .ok (.istore 5, 2) := by decide +kernel
theorem own_dx_3 : decode jdk_48_method_14_code 3 = .ok (.iload 4, 2) := by decide +kernel
theorem own_dx_5 : decode jdk_48_method_14_code 5 = .ok (.bipush 7, 2) := by decide +kernel
theorem own_dx_7 : decode jdk_48_method_14_code 7 = .ok (.if_icmp .le 63, 3) := by decide +kernel
theorem own_dx_70 : decode jdk_48_method_14_code 70 = .ok (.iload 5, 2) := by decide +kernel
theorem own_dx_72 : decode jdk_48_method_14_code 72 = .ok (.iload 4, 2) := by decide +kernel
theorem own_dx_74 : decode jdk_48_method_14_code 74 = .ok (.if_icmp .ge 27, 3) := by decide +kernel
theorem own_dx_77 : decode jdk_48_method_14_code 77 = .ok (.aload_n 0, 1) := by decide +kernel
theorem own_dx_78 : decode jdk_48_method_14_code 78 = .ok (.iload_n 1, 1) := by decide +kernel
theorem own_dx_79 : decode jdk_48_method_14_code 79 = .ok (.iload 5, 2) := by decide +kernel
theorem own_dx_81 : decode jdk_48_method_14_code 81 = .ok (.iadd, 1) := by decide +kernel
theorem own_dx_82 : decode jdk_48_method_14_code 82 = .ok (.baload, 1) := by decide +kernel
theorem own_dx_83 : decode jdk_48_method_14_code 83 = .ok (.aload_n 2, 1) := by decide +kernel
theorem own_dx_84 : decode jdk_48_method_14_code 84 = .ok (.iload_n 3, 1) := by decide +kernel
theorem own_dx_85 : decode jdk_48_method_14_code 85 = .ok (.iload 5, 2) := by decide +kernel
theorem own_dx_87 : decode jdk_48_method_14_code 87 = .ok (.iadd, 1) := by decide +kernel
theorem own_dx_88 : decode jdk_48_method_14_code 88 = .ok (.baload, 1) := by decide +kernel
theorem own_dx_89 : decode jdk_48_method_14_code 89 = .ok (.if_icmp .eq 6, 3) := by decide +kernel
theorem own_dx_92 : decode jdk_48_method_14_code 92 = .ok (.iload 5, 2) := by decide +kernel
theorem own_dx_94 : decode jdk_48_method_14_code 94 = .ok (.ireturn, 1) := by decide +kernel
theorem own_dx_95 : decode jdk_48_method_14_code 95 = .ok (.iinc 5 1, 3) := by decide +kernel
theorem own_dx_98 : decode jdk_48_method_14_code 98 = .ok (.goto (-28), 3) := by decide +kernel
theorem own_dx_101 : decode jdk_48_method_14_code 101 = .ok (.iconst (-1), 1) := by decide +kernel
theorem own_dx_102 : decode jdk_48_method_14_code 102 = .ok (.ireturn, 1) := by decide +kernel
theorem own_z {z : Int32} (hz : (2 : Int32) < z) : (0 : Int32) < z ∧ (1 : Int32) < z := by
  simp only [Int32.lt_iff_toInt_lt] at *
  have e2 : (2 : Int32).toInt = 2 := by decide
  have e1 : (1 : Int32).toInt = 1 := by decide
  have e0 : (0 : Int32).toInt = 0 := by decide
  omega
theorem own_ef_rc (m : MethodId) (x0 : Int32) (x1 : Int32) (x2 : Int32) : entryFrame m #[(.int x0), (.int x1), (.int x2)] 3 = mkF m 0 #[.val (.int x0), .val (.int x1), .val (.int x2)] [] := by first | (simp [entryFrame, mkF, argsToLocals, Value.category]; done) | rfl
def own_Q_rc (Z : State) (z : Int32) (h0 : Heap) (n0 : Nat) (v : Option Value) (h : Heap) (L : List Loc) : Prop := v = none ∧ Fr n0 L ∧ h = h0
set_option maxRecDepth 65536 in
set_option maxHeartbeats 40000000 in
theorem own_rm_rc (l : Launch) (Z : State) (a0 : Array Value) (hw : ∀ d ∈ tables_1, d.before a0 Z = true) (ws : List Jvm.Cond) (z : Int32) (h0 : Heap) (n0 : Nat) (Z0 : n0 ≤ h0.size) (hz : ¬ z < (3 : Int32)) :
    MetFree l (⟨"java/util/Arrays", "rangeCheck", "(III)V"⟩ : MethodName) (head1 (Jvm.Cond.code (⟨"java/util/Arrays", "rangeCheck", "(III)V"⟩ : MethodName) jdk_65_method_30_code 3 none :: ws) ({ frames := 0, cells := 0, slots := 0, locals := 0 } : Room)) (fun zz U => zz = #[(.int z), (.int (0 : Int32)), (.int (3 : Int32))] ∧ Z.Warmed39 U.vm ∧ U.heap = h0) (fun _ _ _ _ _ => True) (fun _ U zo U' => ∃ v L, zo = .returned v ∧ own_Q_rc Z z h0 n0 v U'.heap L ∧ FrameEnd U zo U' L ({ frames := 0, cells := 0, slots := 0, locals := 0 } : Room).cells ({ frames := 0, cells := 0, slots := 0, locals := 0 } : Room).slots) := by
  refine MetFree.of_bodySF (plainFor_of_name own_pn0) hisR ?_
  intro p e s m args below meth c s₁ Bd hml0 hP hK
  obtain ⟨rfl, hZ, hh⟩ := hP
  have hx := Bd.exec
  have hby := Bd.bytes
  have hml : c.maxLocals = 3 := hml0
  have hown : s.vm.findClass "java/util/Arrays" = some m.cls := findClass_of_methodNamed Bd.named
  have hnm := (name_of_methodNamed Bd.named Bd.method).1
  have X0 : Stand p l e ({ frames := 0, cells := 0, slots := 0, locals := 0 } : Room) s m #[(.int z), (.int (0 : Int32)), (.int (3 : Int32))] below meth c s₁ [] 0 0 := Stand.of_body Bd
  have e0 : s₁.heap = h0 := by rw [← hh, Bd.state]; rfl
  have N0 := Fr.nil n0
  show own_Go p e below (own_K s (own_Q_rc Z z h0 n0) ({ frames := 0, cells := 0, slots := 0, locals := 0 } : Room).cells ({ frames := 0, cells := 0, slots := 0, locals := 0 } : Room).slots) s₁ (entryFrame m #[(.int z), (.int (0 : Int32)), (.int (3 : Int32))] 3)
  rw [own_ef_rc m z (0 : Int32) (3 : Int32)]
  show own_Go p e below _ s₁ (mkF m 0 #[iv z, iv 0, iv 3] [])
  refine own_st (fun _ k => XS.iloadN X0.here hx rfl (hb hby own_dr_0) rfl k) ?_
  show own_Go p e below _ s₁ (mkF m 1 #[iv z, iv 0, iv 3] [(.int 0)])
  refine own_st (fun _ k => XS.iloadN X0.here hx rfl (hb hby own_dr_1) rfl k) ?_
  show own_Go p e below _ s₁ (mkF m 2 #[iv z, iv 0, iv 3] [(.int 3), (.int 0)])
  refine own_st (fun _ k => XS.icmpYes X0.here hx rfl (pc0 := 2) (pc' := 46) rfl (hb hby own_dr_2) rfl (XT.ii_le_t (by decide)) (by decide) (by decide) k) ?_
  show own_Go p e below _ s₁ (mkF m 46 #[iv z, iv 0, iv 3] [])
  refine own_st (fun _ k => XS.iloadN X0.here hx rfl (hb hby own_dr_46) rfl k) ?_
  show own_Go p e below _ s₁ (mkF m 47 #[iv z, iv 0, iv 3] [(.int 0)])
  refine own_st (fun _ k => XS.ifYes X0.here hx rfl (pc0 := 47) (pc' := 59) rfl (hb hby own_dr_47) rfl (XT.i0_ge_t (by decide)) (by decide) (by decide) k) ?_
  show own_Go p e below _ s₁ (mkF m 59 #[iv z, iv 0, iv 3] [])
  refine own_st (fun _ k => XS.iloadN X0.here hx rfl (hb hby own_dr_59) rfl k) ?_
  show own_Go p e below _ s₁ (mkF m 60 #[iv z, iv 0, iv 3] [(.int 3)])
  refine own_st (fun _ k => XS.iloadN X0.here hx rfl (hb hby own_dr_60) rfl k) ?_
  show own_Go p e below _ s₁ (mkF m 61 #[iv z, iv 0, iv 3] [(.int z), (.int 3)])
  refine own_st (fun _ k => XS.icmpYes X0.here hx rfl (pc0 := 61) (pc' := 73) rfl (hb hby own_dr_61) rfl (XT.ii_le_t hz) (by decide) (by decide) k) ?_
  show own_Go p e below _ s₁ (mkF m 73 #[iv z, iv 0, iv 3] [])
  refine own_ret X0 hx Bd.notSynchronized Bd.returns (hb hby own_dr_73) (by decide) (by decide) ?_
  rw [e0]
  exact ⟨rfl, N0, rfl⟩
def own_mis (v0 v1 v2 : Int32) : Int32 := if v0 = (-17) then (if v1 = (-69) then (if v2 = (-65) then (-1) else 2) else 1) else 0
theorem own_ef_mis (m : MethodId) (x0 : Addr) (x1 : Int32) (x2 : Addr) (x3 : Int32) (x4 : Int32) : entryFrame m #[(.ref x0), (.int x1), (.ref x2), (.int x3), (.int x4)] 8 = mkF m 0 #[.val (.ref x0), .val (.int x1), .val (.ref x2), .val (.int x3), .val (.int x4), .unset, .unset, .unset] [] := by first | (simp [entryFrame, mkF, argsToLocals, Value.category]; done) | rfl
def own_Q_mis (Z : State) (a : Addr) (ka : ClassId) (z : Int32) (vs : List Value) (v0 : Int32) (v1 : Int32) (v2 : Int32) (w_B : Addr) (kB : ClassId) (h0 : Heap) (n0 : Nat) (v : Option Value) (h : Heap) (L : List Loc) : Prop := v = some (.int (own_mis v0 v1 v2)) ∧ Fr n0 L ∧ h = h0
set_option maxRecDepth 65536 in
set_option maxHeartbeats 40000000 in
theorem own_rm_mis (l : Launch) (Z : State) (a0 : Array Value) (hw : ∀ d ∈ tables_1, d.before a0 Z = true) (ws : List Jvm.Cond) (a : Addr) (ka : ClassId) (z : Int32) (vs : List Value) (v0 : Int32) (v1 : Int32) (v2 : Int32) (w_B : Addr) (kB : ClassId) (h0 : Heap) (n0 : Nat) (Z0 : n0 ≤ h0.size) (VA : Arv Z h0 a ka .byte z vs (.int 0)) (VB : Arv Z h0 w_B kB .byte 3 [.int (-17), .int (-69), .int (-65)] (.int 0)) (hz : (2 : Int32) < z) (g0 : vs.getD 0 (.int 0) = .int v0) (g1 : vs.getD 1 (.int 0) = .int v1) (g2 : vs.getD 2 (.int 0) = .int v2) :
    MetFree l (⟨"jdk/internal/util/ArraysSupport", "mismatch", "([BI[BII)I"⟩ : MethodName) (head1 (Jvm.Cond.code (⟨"jdk/internal/util/ArraysSupport", "mismatch", "([BI[BII)I"⟩ : MethodName) jdk_48_method_14_code 8 (some .int) :: ws) ({ frames := 0, cells := 0, slots := 0, locals := 0 } : Room)) (fun zz U => zz = #[(.ref a), (.int (0 : Int32)), (.ref w_B), (.int (0 : Int32)), (.int (3 : Int32))] ∧ Z.Warmed39 U.vm ∧ U.heap = h0) (fun _ _ _ _ _ => True) (fun _ U zo U' => ∃ v L, zo = .returned v ∧ own_Q_mis Z a ka z vs v0 v1 v2 w_B kB h0 n0 v U'.heap L ∧ FrameEnd U zo U' L ({ frames := 0, cells := 0, slots := 0, locals := 0 } : Room).cells ({ frames := 0, cells := 0, slots := 0, locals := 0 } : Room).slots) := by
  refine MetFree.of_bodySF (plainFor_of_name own_pn1) hisR ?_
  intro p e s m args below meth c s₁ Bd hml0 hP hK
  obtain ⟨rfl, hZ, hh⟩ := hP
  have hx := Bd.exec
  have hby := Bd.bytes
  have hml : c.maxLocals = 8 := hml0
  have hown : s.vm.findClass "jdk/internal/util/ArraysSupport" = some m.cls := findClass_of_methodNamed Bd.named
  have hnm := (name_of_methodNamed Bd.named Bd.method).1
  have X0 : Stand p l e ({ frames := 0, cells := 0, slots := 0, locals := 0 } : Room) s m #[(.ref a), (.int (0 : Int32)), (.ref w_B), (.int (0 : Int32)), (.int (3 : Int32))] below meth c s₁ [] 0 0 := Stand.of_body Bd
  have e0 : s₁.heap = h0 := by rw [← hh, Bd.state]; rfl
  have N0 := Fr.nil n0
  show own_Go p e below (own_K s (own_Q_mis Z a ka z vs v0 v1 v2 w_B kB h0 n0) ({ frames := 0, cells := 0, slots := 0, locals := 0 } : Room).cells ({ frames := 0, cells := 0, slots := 0, locals := 0 } : Room).slots) s₁ (entryFrame m #[(.ref a), (.int (0 : Int32)), (.ref w_B), (.int (0 : Int32)), (.int (3 : Int32))] 8)
  rw [own_ef_mis m a (0 : Int32) w_B (0 : Int32) (3 : Int32)]
  show own_Go p e below _ s₁ (mkF m 0 #[rv a, iv 0, rv w_B, iv 0, iv 3, .unset, .unset, .unset] [])
  have hz' := own_z hz
  refine own_st (fun _ k => XT.iconstV X0.here hx rfl (0 : Int32) (hb hby own_dx_0) (by decide) k) ?_
  show own_Go p e below _ s₁ (mkF m 1 #[rv a, iv 0, rv w_B, iv 0, iv 3, .unset, .unset, .unset] [(.int 0)])
  refine own_st (fun _ k => XS.istore X0.here hx rfl (hb hby own_dx_1) rfl (l' := #[rv a, iv 0, rv w_B, iv 0, iv 3, iv 0, .unset, .unset]) rfl k) ?_
  show own_Go p e below _ s₁ (mkF m 3 #[rv a, iv 0, rv w_B, iv 0, iv 3, iv 0, .unset, .unset] [])
  refine own_st (fun _ k => XS.iload X0.here hx rfl (hb hby own_dx_3) rfl k) ?_
  show own_Go p e below _ s₁ (mkF m 5 #[rv a, iv 0, rv w_B, iv 0, iv 3, iv 0, .unset, .unset] [(.int 3)])
  refine own_st (fun _ k => XT.bipushV X0.here hx rfl (7 : Int32) (hb hby own_dx_5) (by decide) k) ?_
  show own_Go p e below _ s₁ (mkF m 7 #[rv a, iv 0, rv w_B, iv 0, iv 3, iv 0, .unset, .unset] [(.int 7), (.int 3)])
  refine own_st (fun _ k => XS.icmpYes X0.here hx rfl (pc0 := 7) (pc' := 70) rfl (hb hby own_dx_7) rfl (XT.ii_le_t (by decide)) (by decide) (by decide) k) ?_
  show own_Go p e below _ s₁ (mkF m 70 #[rv a, iv 0, rv w_B, iv 0, iv 3, iv 0, .unset, .unset] [])
  refine own_st (fun _ k => XS.iload X0.here hx rfl (hb hby own_dx_70) rfl k) ?_
  show own_Go p e below _ s₁ (mkF m 72 #[rv a, iv 0, rv w_B, iv 0, iv 3, iv 0, .unset, .unset] [(.int 0)])
  refine own_st (fun _ k => XS.iload X0.here hx rfl (hb hby own_dx_72) rfl k) ?_
  show own_Go p e below _ s₁ (mkF m 74 #[rv a, iv 0, rv w_B, iv 0, iv 3, iv 0, .unset, .unset] [(.int 3), (.int 0)])
  refine own_st (fun _ k => XS.icmpNo X0.here hx rfl (hb hby own_dx_74) rfl (XT.ii_ge_f (by decide)) k) ?_
  show own_Go p e below _ s₁ (mkF m 77 #[rv a, iv 0, rv w_B, iv 0, iv 3, iv 0, .unset, .unset] [])
  refine own_st (fun _ k => XS.aloadN X0.here hx rfl (hb hby own_dx_77) rfl rfl k) ?_
  show own_Go p e below _ s₁ (mkF m 78 #[rv a, iv 0, rv w_B, iv 0, iv 3, iv 0, .unset, .unset] [(.ref a)])
  refine own_st (fun _ k => XS.iloadN X0.here hx rfl (hb hby own_dx_78) rfl k) ?_
  show own_Go p e below _ s₁ (mkF m 79 #[rv a, iv 0, rv w_B, iv 0, iv 3, iv 0, .unset, .unset] [(.int 0), (.ref a)])
  refine own_st (fun _ k => XS.iload X0.here hx rfl (hb hby own_dx_79) rfl k) ?_
  show own_Go p e below _ s₁ (mkF m 81 #[rv a, iv 0, rv w_B, iv 0, iv 3, iv 0, .unset, .unset] [(.int 0), (.int 0), (.ref a)])
  refine own_st (fun _ k => XS.iadd X0.here hx rfl (hb hby own_dx_81) rfl k) ?_
  show own_Go p e below _ s₁ (mkF m 82 #[rv a, iv 0, rv w_B, iv 0, iv 3, iv 0, .unset, .unset] [(.int (0 + 0)), (.ref a)])
  show own_Go p e below _ s₁ (mkF m 82 #[rv a, iv 0, rv w_B, iv 0, iv 3, iv 0, .unset, .unset] [(.int 0), (.ref a)])
  refine own_st (fun _ k => own_ldB X0 hx hZ e0 VA ⟨by decide, hz'.1⟩ (v := (.int v0)) g0 rfl rfl (hb hby own_dx_82) k) ?_
  show own_Go p e below _ s₁ (mkF m 83 #[rv a, iv 0, rv w_B, iv 0, iv 3, iv 0, .unset, .unset] [(.int v0)])
  refine own_st (fun _ k => XS.aloadN X0.here hx rfl (hb hby own_dx_83) rfl rfl k) ?_
  show own_Go p e below _ s₁ (mkF m 84 #[rv a, iv 0, rv w_B, iv 0, iv 3, iv 0, .unset, .unset] [(.ref w_B), (.int v0)])
  refine own_st (fun _ k => XS.iloadN X0.here hx rfl (hb hby own_dx_84) rfl k) ?_
  show own_Go p e below _ s₁ (mkF m 85 #[rv a, iv 0, rv w_B, iv 0, iv 3, iv 0, .unset, .unset] [(.int 0), (.ref w_B), (.int v0)])
  refine own_st (fun _ k => XS.iload X0.here hx rfl (hb hby own_dx_85) rfl k) ?_
  show own_Go p e below _ s₁ (mkF m 87 #[rv a, iv 0, rv w_B, iv 0, iv 3, iv 0, .unset, .unset] [(.int 0), (.int 0), (.ref w_B), (.int v0)])
  refine own_st (fun _ k => XS.iadd X0.here hx rfl (hb hby own_dx_87) rfl k) ?_
  show own_Go p e below _ s₁ (mkF m 88 #[rv a, iv 0, rv w_B, iv 0, iv 3, iv 0, .unset, .unset] [(.int (0 + 0)), (.ref w_B), (.int v0)])
  show own_Go p e below _ s₁ (mkF m 88 #[rv a, iv 0, rv w_B, iv 0, iv 3, iv 0, .unset, .unset] [(.int 0), (.ref w_B), (.int v0)])
  refine own_st (fun _ k => own_ldB X0 hx hZ e0 VB ⟨by decide, by decide⟩ (v := (.int ((-17) : Int32))) rfl rfl rfl (hb hby own_dx_88) k) ?_
  show own_Go p e below _ s₁ (mkF m 89 #[rv a, iv 0, rv w_B, iv 0, iv 3, iv 0, .unset, .unset] [(.int ((-17) : Int32)), (.int v0)])
  by_cases c0 : v0 = ((-17) : Int32)
  · refine own_st (fun _ k => XS.icmpYes X0.here hx rfl (pc0 := 89) (pc' := 95) rfl (hb hby own_dx_89) rfl (XT.ii_eq_t c0) (by decide) (by decide) k) ?_
    show own_Go p e below _ s₁ (mkF m 95 #[rv a, iv 0, rv w_B, iv 0, iv 3, iv 0, .unset, .unset] [])
    refine own_st (fun _ k => XT.iincV X0.here hx rfl (1 : Int32) (hb hby own_dx_95) (by decide) rfl (l' := #[rv a, iv 0, rv w_B, iv 0, iv 3, iv (0 + 1), .unset, .unset]) rfl k) ?_
    show own_Go p e below _ s₁ (mkF m 98 #[rv a, iv 0, rv w_B, iv 0, iv 3, iv (0 + 1), .unset, .unset] [])
    refine own_st (fun _ k => XS.goto X0.here hx rfl (pc0 := 98) (pc' := 70) rfl (hb hby own_dx_98) (by decide) (by decide) k) ?_
    show own_Go p e below _ s₁ (mkF m 70 #[rv a, iv 0, rv w_B, iv 0, iv 3, iv (0 + 1), .unset, .unset] [])
    refine own_st (fun _ k => XS.iload X0.here hx rfl (hb hby own_dx_70) rfl k) ?_
    show own_Go p e below _ s₁ (mkF m 72 #[rv a, iv 0, rv w_B, iv 0, iv 3, iv (0 + 1), .unset, .unset] [(.int (0 + 1))])
    refine own_st (fun _ k => XS.iload X0.here hx rfl (hb hby own_dx_72) rfl k) ?_
    show own_Go p e below _ s₁ (mkF m 74 #[rv a, iv 0, rv w_B, iv 0, iv 3, iv (0 + 1), .unset, .unset] [(.int 3), (.int (0 + 1))])
    show own_Go p e below _ s₁ (mkF m 74 #[rv a, iv 0, rv w_B, iv 0, iv 3, iv 1, .unset, .unset] [(.int 3), (.int (0 + 1))])
    refine own_st (fun _ k => XS.icmpNo X0.here hx rfl (hb hby own_dx_74) rfl (XT.ii_ge_f (by decide)) k) ?_
    show own_Go p e below _ s₁ (mkF m 77 #[rv a, iv 0, rv w_B, iv 0, iv 3, iv 1, .unset, .unset] [])
    refine own_st (fun _ k => XS.aloadN X0.here hx rfl (hb hby own_dx_77) rfl rfl k) ?_
    show own_Go p e below _ s₁ (mkF m 78 #[rv a, iv 0, rv w_B, iv 0, iv 3, iv 1, .unset, .unset] [(.ref a)])
    refine own_st (fun _ k => XS.iloadN X0.here hx rfl (hb hby own_dx_78) rfl k) ?_
    show own_Go p e below _ s₁ (mkF m 79 #[rv a, iv 0, rv w_B, iv 0, iv 3, iv 1, .unset, .unset] [(.int 0), (.ref a)])
    refine own_st (fun _ k => XS.iload X0.here hx rfl (hb hby own_dx_79) rfl k) ?_
    show own_Go p e below _ s₁ (mkF m 81 #[rv a, iv 0, rv w_B, iv 0, iv 3, iv 1, .unset, .unset] [(.int 1), (.int 0), (.ref a)])
    refine own_st (fun _ k => XS.iadd X0.here hx rfl (hb hby own_dx_81) rfl k) ?_
    show own_Go p e below _ s₁ (mkF m 82 #[rv a, iv 0, rv w_B, iv 0, iv 3, iv 1, .unset, .unset] [(.int (0 + 1)), (.ref a)])
    show own_Go p e below _ s₁ (mkF m 82 #[rv a, iv 0, rv w_B, iv 0, iv 3, iv 1, .unset, .unset] [(.int 1), (.ref a)])
    refine own_st (fun _ k => own_ldB X0 hx hZ e0 VA ⟨by decide, hz'.2⟩ (v := (.int v1)) g1 rfl rfl (hb hby own_dx_82) k) ?_
    show own_Go p e below _ s₁ (mkF m 83 #[rv a, iv 0, rv w_B, iv 0, iv 3, iv 1, .unset, .unset] [(.int v1)])
    refine own_st (fun _ k => XS.aloadN X0.here hx rfl (hb hby own_dx_83) rfl rfl k) ?_
    show own_Go p e below _ s₁ (mkF m 84 #[rv a, iv 0, rv w_B, iv 0, iv 3, iv 1, .unset, .unset] [(.ref w_B), (.int v1)])
    refine own_st (fun _ k => XS.iloadN X0.here hx rfl (hb hby own_dx_84) rfl k) ?_
    show own_Go p e below _ s₁ (mkF m 85 #[rv a, iv 0, rv w_B, iv 0, iv 3, iv 1, .unset, .unset] [(.int 0), (.ref w_B), (.int v1)])
    refine own_st (fun _ k => XS.iload X0.here hx rfl (hb hby own_dx_85) rfl k) ?_
    show own_Go p e below _ s₁ (mkF m 87 #[rv a, iv 0, rv w_B, iv 0, iv 3, iv 1, .unset, .unset] [(.int 1), (.int 0), (.ref w_B), (.int v1)])
    refine own_st (fun _ k => XS.iadd X0.here hx rfl (hb hby own_dx_87) rfl k) ?_
    show own_Go p e below _ s₁ (mkF m 88 #[rv a, iv 0, rv w_B, iv 0, iv 3, iv 1, .unset, .unset] [(.int (0 + 1)), (.ref w_B), (.int v1)])
    show own_Go p e below _ s₁ (mkF m 88 #[rv a, iv 0, rv w_B, iv 0, iv 3, iv 1, .unset, .unset] [(.int 1), (.ref w_B), (.int v1)])
    refine own_st (fun _ k => own_ldB X0 hx hZ e0 VB ⟨by decide, by decide⟩ (v := (.int ((-69) : Int32))) rfl rfl rfl (hb hby own_dx_88) k) ?_
    show own_Go p e below _ s₁ (mkF m 89 #[rv a, iv 0, rv w_B, iv 0, iv 3, iv 1, .unset, .unset] [(.int ((-69) : Int32)), (.int v1)])
    by_cases c1 : v1 = ((-69) : Int32)
    · refine own_st (fun _ k => XS.icmpYes X0.here hx rfl (pc0 := 89) (pc' := 95) rfl (hb hby own_dx_89) rfl (XT.ii_eq_t c1) (by decide) (by decide) k) ?_
      show own_Go p e below _ s₁ (mkF m 95 #[rv a, iv 0, rv w_B, iv 0, iv 3, iv 1, .unset, .unset] [])
      refine own_st (fun _ k => XT.iincV X0.here hx rfl (1 : Int32) (hb hby own_dx_95) (by decide) rfl (l' := #[rv a, iv 0, rv w_B, iv 0, iv 3, iv (1 + 1), .unset, .unset]) rfl k) ?_
      show own_Go p e below _ s₁ (mkF m 98 #[rv a, iv 0, rv w_B, iv 0, iv 3, iv (1 + 1), .unset, .unset] [])
      refine own_st (fun _ k => XS.goto X0.here hx rfl (pc0 := 98) (pc' := 70) rfl (hb hby own_dx_98) (by decide) (by decide) k) ?_
      show own_Go p e below _ s₁ (mkF m 70 #[rv a, iv 0, rv w_B, iv 0, iv 3, iv (1 + 1), .unset, .unset] [])
      refine own_st (fun _ k => XS.iload X0.here hx rfl (hb hby own_dx_70) rfl k) ?_
      show own_Go p e below _ s₁ (mkF m 72 #[rv a, iv 0, rv w_B, iv 0, iv 3, iv (1 + 1), .unset, .unset] [(.int (1 + 1))])
      refine own_st (fun _ k => XS.iload X0.here hx rfl (hb hby own_dx_72) rfl k) ?_
      show own_Go p e below _ s₁ (mkF m 74 #[rv a, iv 0, rv w_B, iv 0, iv 3, iv (1 + 1), .unset, .unset] [(.int 3), (.int (1 + 1))])
      show own_Go p e below _ s₁ (mkF m 74 #[rv a, iv 0, rv w_B, iv 0, iv 3, iv 2, .unset, .unset] [(.int 3), (.int (1 + 1))])
      refine own_st (fun _ k => XS.icmpNo X0.here hx rfl (hb hby own_dx_74) rfl (XT.ii_ge_f (by decide)) k) ?_
      show own_Go p e below _ s₁ (mkF m 77 #[rv a, iv 0, rv w_B, iv 0, iv 3, iv 2, .unset, .unset] [])
      refine own_st (fun _ k => XS.aloadN X0.here hx rfl (hb hby own_dx_77) rfl rfl k) ?_
      show own_Go p e below _ s₁ (mkF m 78 #[rv a, iv 0, rv w_B, iv 0, iv 3, iv 2, .unset, .unset] [(.ref a)])
      refine own_st (fun _ k => XS.iloadN X0.here hx rfl (hb hby own_dx_78) rfl k) ?_
      show own_Go p e below _ s₁ (mkF m 79 #[rv a, iv 0, rv w_B, iv 0, iv 3, iv 2, .unset, .unset] [(.int 0), (.ref a)])
      refine own_st (fun _ k => XS.iload X0.here hx rfl (hb hby own_dx_79) rfl k) ?_
      show own_Go p e below _ s₁ (mkF m 81 #[rv a, iv 0, rv w_B, iv 0, iv 3, iv 2, .unset, .unset] [(.int 2), (.int 0), (.ref a)])
      refine own_st (fun _ k => XS.iadd X0.here hx rfl (hb hby own_dx_81) rfl k) ?_
      show own_Go p e below _ s₁ (mkF m 82 #[rv a, iv 0, rv w_B, iv 0, iv 3, iv 2, .unset, .unset] [(.int (0 + 2)), (.ref a)])
      show own_Go p e below _ s₁ (mkF m 82 #[rv a, iv 0, rv w_B, iv 0, iv 3, iv 2, .unset, .unset] [(.int 2), (.ref a)])
      refine own_st (fun _ k => own_ldB X0 hx hZ e0 VA ⟨by decide, hz⟩ (v := (.int v2)) g2 rfl rfl (hb hby own_dx_82) k) ?_
      show own_Go p e below _ s₁ (mkF m 83 #[rv a, iv 0, rv w_B, iv 0, iv 3, iv 2, .unset, .unset] [(.int v2)])
      refine own_st (fun _ k => XS.aloadN X0.here hx rfl (hb hby own_dx_83) rfl rfl k) ?_
      show own_Go p e below _ s₁ (mkF m 84 #[rv a, iv 0, rv w_B, iv 0, iv 3, iv 2, .unset, .unset] [(.ref w_B), (.int v2)])
      refine own_st (fun _ k => XS.iloadN X0.here hx rfl (hb hby own_dx_84) rfl k) ?_
      show own_Go p e below _ s₁ (mkF m 85 #[rv a, iv 0, rv w_B, iv 0, iv 3, iv 2, .unset, .unset] [(.int 0), (.ref w_B), (.int v2)])
      refine own_st (fun _ k => XS.iload X0.here hx rfl (hb hby own_dx_85) rfl k) ?_
      show own_Go p e below _ s₁ (mkF m 87 #[rv a, iv 0, rv w_B, iv 0, iv 3, iv 2, .unset, .unset] [(.int 2), (.int 0), (.ref w_B), (.int v2)])
      refine own_st (fun _ k => XS.iadd X0.here hx rfl (hb hby own_dx_87) rfl k) ?_
      show own_Go p e below _ s₁ (mkF m 88 #[rv a, iv 0, rv w_B, iv 0, iv 3, iv 2, .unset, .unset] [(.int (0 + 2)), (.ref w_B), (.int v2)])
      show own_Go p e below _ s₁ (mkF m 88 #[rv a, iv 0, rv w_B, iv 0, iv 3, iv 2, .unset, .unset] [(.int 2), (.ref w_B), (.int v2)])
      refine own_st (fun _ k => own_ldB X0 hx hZ e0 VB ⟨by decide, by decide⟩ (v := (.int ((-65) : Int32))) rfl rfl rfl (hb hby own_dx_88) k) ?_
      show own_Go p e below _ s₁ (mkF m 89 #[rv a, iv 0, rv w_B, iv 0, iv 3, iv 2, .unset, .unset] [(.int ((-65) : Int32)), (.int v2)])
      by_cases c2 : v2 = ((-65) : Int32)
      · refine own_st (fun _ k => XS.icmpYes X0.here hx rfl (pc0 := 89) (pc' := 95) rfl (hb hby own_dx_89) rfl (XT.ii_eq_t c2) (by decide) (by decide) k) ?_
        show own_Go p e below _ s₁ (mkF m 95 #[rv a, iv 0, rv w_B, iv 0, iv 3, iv 2, .unset, .unset] [])
        refine own_st (fun _ k => XT.iincV X0.here hx rfl (1 : Int32) (hb hby own_dx_95) (by decide) rfl (l' := #[rv a, iv 0, rv w_B, iv 0, iv 3, iv (2 + 1), .unset, .unset]) rfl k) ?_
        show own_Go p e below _ s₁ (mkF m 98 #[rv a, iv 0, rv w_B, iv 0, iv 3, iv (2 + 1), .unset, .unset] [])
        refine own_st (fun _ k => XS.goto X0.here hx rfl (pc0 := 98) (pc' := 70) rfl (hb hby own_dx_98) (by decide) (by decide) k) ?_
        show own_Go p e below _ s₁ (mkF m 70 #[rv a, iv 0, rv w_B, iv 0, iv 3, iv (2 + 1), .unset, .unset] [])
        refine own_st (fun _ k => XS.iload X0.here hx rfl (hb hby own_dx_70) rfl k) ?_
        show own_Go p e below _ s₁ (mkF m 72 #[rv a, iv 0, rv w_B, iv 0, iv 3, iv (2 + 1), .unset, .unset] [(.int (2 + 1))])
        refine own_st (fun _ k => XS.iload X0.here hx rfl (hb hby own_dx_72) rfl k) ?_
        show own_Go p e below _ s₁ (mkF m 74 #[rv a, iv 0, rv w_B, iv 0, iv 3, iv (2 + 1), .unset, .unset] [(.int 3), (.int (2 + 1))])
        show own_Go p e below _ s₁ (mkF m 74 #[rv a, iv 0, rv w_B, iv 0, iv 3, iv 3, .unset, .unset] [(.int 3), (.int (2 + 1))])
        refine own_st (fun _ k => XS.icmpYes X0.here hx rfl (pc0 := 74) (pc' := 101) rfl (hb hby own_dx_74) rfl (XT.ii_ge_t (by decide)) (by decide) (by decide) k) ?_
        show own_Go p e below _ s₁ (mkF m 101 #[rv a, iv 0, rv w_B, iv 0, iv 3, iv 3, .unset, .unset] [])
        refine own_st (fun _ k => XT.iconstV X0.here hx rfl (-1 : Int32) (hb hby own_dx_101) (by decide) k) ?_
        show own_Go p e below _ s₁ (mkF m 102 #[rv a, iv 0, rv w_B, iv 0, iv 3, iv 3, .unset, .unset] [(.int (-1))])
        refine own_retI X0 hx Bd.notSynchronized Bd.returns (hb hby own_dx_102) (by decide) (by decide) ?_
        rw [e0]
        exact ⟨by simp [own_mis, c0, c1, c2], N0, rfl⟩
      · refine own_st (fun _ k => XS.icmpNo X0.here hx rfl (hb hby own_dx_89) rfl (XT.ii_eq_f c2) k) ?_
        show own_Go p e below _ s₁ (mkF m 92 #[rv a, iv 0, rv w_B, iv 0, iv 3, iv 2, .unset, .unset] [])
        refine own_st (fun _ k => XS.iload X0.here hx rfl (hb hby own_dx_92) rfl k) ?_
        show own_Go p e below _ s₁ (mkF m 94 #[rv a, iv 0, rv w_B, iv 0, iv 3, iv 2, .unset, .unset] [(.int 2)])
        refine own_retI X0 hx Bd.notSynchronized Bd.returns (hb hby own_dx_94) (by decide) (by decide) ?_
        rw [e0]
        exact ⟨by simp [own_mis, c0, c1, c2], N0, rfl⟩
    · refine own_st (fun _ k => XS.icmpNo X0.here hx rfl (hb hby own_dx_89) rfl (XT.ii_eq_f c1) k) ?_
      show own_Go p e below _ s₁ (mkF m 92 #[rv a, iv 0, rv w_B, iv 0, iv 3, iv 1, .unset, .unset] [])
      refine own_st (fun _ k => XS.iload X0.here hx rfl (hb hby own_dx_92) rfl k) ?_
      show own_Go p e below _ s₁ (mkF m 94 #[rv a, iv 0, rv w_B, iv 0, iv 3, iv 1, .unset, .unset] [(.int 1)])
      refine own_retI X0 hx Bd.notSynchronized Bd.returns (hb hby own_dx_94) (by decide) (by decide) ?_
      rw [e0]
      exact ⟨by simp [own_mis, c0, c1], N0, rfl⟩
  · refine own_st (fun _ k => XS.icmpNo X0.here hx rfl (hb hby own_dx_89) rfl (XT.ii_eq_f c0) k) ?_
    show own_Go p e below _ s₁ (mkF m 92 #[rv a, iv 0, rv w_B, iv 0, iv 3, iv 0, .unset, .unset] [])
    refine own_st (fun _ k => XS.iload X0.here hx rfl (hb hby own_dx_92) rfl k) ?_
    show own_Go p e below _ s₁ (mkF m 94 #[rv a, iv 0, rv w_B, iv 0, iv 3, iv 0, .unset, .unset] [(.int 0)])
    refine own_retI X0 hx Bd.notSynchronized Bd.returns (hb hby own_dx_94) (by decide) (by decide) ?_
    rw [e0]
    exact ⟨by simp [own_mis, c0], N0, rfl⟩
theorem own_nlt3 {z : Int32} (hz : (2 : Int32) < z) : ¬ z < (3 : Int32) := by
  simp only [Int32.lt_iff_toInt_lt] at *
  have e2 : (2 : Int32).toInt = 2 := by decide
  have e3 : (3 : Int32).toInt = 3 := by decide
  omega
theorem own_ef_eqs (m : MethodId) (x0 : Addr) (x1 : Int32) (x2 : Int32) (x3 : Addr) (x4 : Int32) (x5 : Int32) : entryFrame m #[(.ref x0), (.int x1), (.int x2), (.ref x3), (.int x4), (.int x5)] 8 = mkF m 0 #[.val (.ref x0), .val (.int x1), .val (.int x2), .val (.ref x3), .val (.int x4), .val (.int x5), .unset, .unset] [] := by first | (simp [entryFrame, mkF, argsToLocals, Value.category]; done) | rfl
def own_Q_eqs (Z : State) (a : Addr) (ka : ClassId) (z : Int32) (vs : List Value) (v0 : Int32) (v1 : Int32) (v2 : Int32) (w_B : Addr) (kB : ClassId) (h0 : Heap) (n0 : Nat) (v : Option Value) (h : Heap) (L : List Loc) : Prop := v = some (.int (if own_mis v0 v1 v2 < 0 then 1 else 0)) ∧ Fr n0 L ∧ h = h0
set_option maxRecDepth 65536 in
set_option maxHeartbeats 40000000 in
theorem own_rm_eqs (l : Launch) (Z : State) (a0 : Array Value) (hw : ∀ d ∈ tables_1, d.before a0 Z = true) (ws : List Jvm.Cond) (a : Addr) (ka : ClassId) (z : Int32) (vs : List Value) (v0 : Int32) (v1 : Int32) (v2 : Int32) (w_B : Addr) (kB : ClassId) (h0 : Heap) (n0 : Nat) (Z0 : n0 ≤ h0.size) (VA : Arv Z h0 a ka .byte z vs (.int 0)) (VB : Arv Z h0 w_B kB .byte 3 [.int (-17), .int (-69), .int (-65)] (.int 0)) (hz : (2 : Int32) < z) (g0 : vs.getD 0 (.int 0) = .int v0) (g1 : vs.getD 1 (.int 0) = .int v1) (g2 : vs.getD 2 (.int 0) = .int v2) :
    MetFree l (⟨"java/util/Arrays", "equals", "([BII[BII)Z"⟩ : MethodName) (head1 (Jvm.Cond.code (⟨"java/util/Arrays", "equals", "([BII[BII)Z"⟩ : MethodName) jdk_65_method_90_code 8 (some .boolean) :: ws) ({ frames := 1, cells := 0, slots := 0, locals := 40 } : Room)) (fun zz U => zz = #[(.ref a), (.int (0 : Int32)), (.int (3 : Int32)), (.ref w_B), (.int (0 : Int32)), (.int (3 : Int32))] ∧ Z.Warmed39 U.vm ∧ U.heap = h0) (fun _ _ _ _ _ => True) (fun _ U zo U' => ∃ v L, zo = .returned v ∧ own_Q_eqs Z a ka z vs v0 v1 v2 w_B kB h0 n0 v U'.heap L ∧ FrameEnd U zo U' L ({ frames := 1, cells := 0, slots := 0, locals := 40 } : Room).cells ({ frames := 1, cells := 0, slots := 0, locals := 40 } : Room).slots) := by
  refine MetFree.of_bodySF (plainFor_of_name own_pn0) hisR ?_
  intro p e s m args below meth c s₁ Bd hml0 hP hK
  obtain ⟨rfl, hZ, hh⟩ := hP
  have hx := Bd.exec
  have hby := Bd.bytes
  have hml : c.maxLocals = 8 := hml0
  have hown : s.vm.findClass "java/util/Arrays" = some m.cls := findClass_of_methodNamed Bd.named
  have hnm := (name_of_methodNamed Bd.named Bd.method).1
  have X0 : Stand p l e ({ frames := 1, cells := 0, slots := 0, locals := 40 } : Room) s m #[(.ref a), (.int (0 : Int32)), (.int (3 : Int32)), (.ref w_B), (.int (0 : Int32)), (.int (3 : Int32))] below meth c s₁ [] 0 0 := Stand.of_body Bd
  have e0 : s₁.heap = h0 := by rw [← hh, Bd.state]; rfl
  have N0 := Fr.nil n0
  show own_Go p e below (own_K s (own_Q_eqs Z a ka z vs v0 v1 v2 w_B kB h0 n0) ({ frames := 1, cells := 0, slots := 0, locals := 40 } : Room).cells ({ frames := 1, cells := 0, slots := 0, locals := 40 } : Room).slots) s₁ (entryFrame m #[(.ref a), (.int (0 : Int32)), (.int (3 : Int32)), (.ref w_B), (.int (0 : Int32)), (.int (3 : Int32))] 8)
  rw [own_ef_eqs m a (0 : Int32) (3 : Int32) w_B (0 : Int32) (3 : Int32)]
  show own_Go p e below _ s₁ (mkF m 0 #[rv a, iv 0, iv 3, rv w_B, iv 0, iv 3, .unset, .unset] [])
  refine own_st (fun _ k => XS.aloadN X0.here hx rfl (hb hby own_dq_0) rfl rfl k) ?_
  show own_Go p e below _ s₁ (mkF m 1 #[rv a, iv 0, iv 3, rv w_B, iv 0, iv 3, .unset, .unset] [(.ref a)])
  refine own_st (fun _ k => own_len X0 hx hZ e0 VA rfl rfl (hb hby own_dq_1) k) ?_
  show own_Go p e below _ s₁ (mkF m 2 #[rv a, iv 0, iv 3, rv w_B, iv 0, iv 3, .unset, .unset] [(.int z)])
  refine own_st (fun _ k => XS.iloadN X0.here hx rfl (hb hby own_dq_2) rfl k) ?_
  show own_Go p e below _ s₁ (mkF m 3 #[rv a, iv 0, iv 3, rv w_B, iv 0, iv 3, .unset, .unset] [(.int 0), (.int z)])
  refine own_st (fun _ k => XS.iloadN X0.here hx rfl (hb hby own_dq_3) rfl k) ?_
  show own_Go p e below _ s₁ (mkF m 4 #[rv a, iv 0, iv 3, rv w_B, iv 0, iv 3, .unset, .unset] [(.int 3), (.int 0), (.int z)])
  obtain ⟨_, _, ⟨T1, L1, k1, n1⟩, -, X1, ⟨Lc1, hQ1, l1, y1, z1⟩, st1⟩ := Jvm.LawKit.callS X0 hx (y := (⟨"java/util/Arrays", "rangeCheck", "(III)V"⟩ : MethodName)) hown (mvT hZ (hw _ (List.mem_of_getElem? (i := 11) rfl))) (mvT hZ (hw _ (List.mem_of_getElem? (i := 12) rfl))) (mvT hZ (hw _ (List.mem_of_getElem? (i := 9) rfl))) (mvT hZ (hw _ (List.mem_of_getElem? (i := 13) rfl))) (by decide) (backOf (W := 0) (own_rm_rc l Z a0 hw [] z h0 n0 Z0 (own_nlt3 hz)) hZ (hw _ (List.mem_of_getElem? (i := 13) rfl)) (hw _ (List.mem_of_getElem? (i := 9) rfl)) (by decide) (by decide)) (g := (mkF m 4 #[rv a, iv 0, iv 3, rv w_B, iv 0, iv 3, .unset, .unset] [(.int 3), (.int 0), (.int z)])) rfl (by rw [hml]; rfl) (argsL := [(.int z), (.int (0 : Int32)), (.int (3 : Int32))]) (rest := []) (lenOf own_pd0 rfl) rfl (by show 2 * 0 + _ ≤ _; exact Nat.le_of_eq rfl) (hb hby own_dq_4) (fun _ _ => ⟨rfl, e0, (by decide : 0 + 0 ≤ _), (by decide : 0 + 0 ≤ _)⟩)
  dsimp only [Pt.U, Pt.locs, Pt.cells, Pt.slots] at X1 l1 y1 z1 st1 hQ1
  subst l1 y1 z1
  obtain ⟨rfl, N1, eh1⟩ := hQ1
  have M1 := Fr.app N0 N1
  refine own_st st1 ?_
  clear X0 N1 e0 st1
  show own_Go p e below _ T1 (mkF m 7 #[rv a, iv 0, iv 3, rv w_B, iv 0, iv 3, .unset, .unset] [])
  refine own_st (fun _ k => XS.aloadN X1.here hx rfl (hb hby own_dq_7) rfl rfl k) ?_
  show own_Go p e below _ T1 (mkF m 8 #[rv a, iv 0, iv 3, rv w_B, iv 0, iv 3, .unset, .unset] [(.ref w_B)])
  refine own_st (fun _ k => own_len X1 hx hZ eh1 VB rfl rfl (hb hby own_dq_8) k) ?_
  show own_Go p e below _ T1 (mkF m 9 #[rv a, iv 0, iv 3, rv w_B, iv 0, iv 3, .unset, .unset] [(.int 3)])
  refine own_st (fun _ k => XS.iload X1.here hx rfl (hb hby own_dq_9) rfl k) ?_
  show own_Go p e below _ T1 (mkF m 11 #[rv a, iv 0, iv 3, rv w_B, iv 0, iv 3, .unset, .unset] [(.int 0), (.int 3)])
  refine own_st (fun _ k => XS.iload X1.here hx rfl (hb hby own_dq_11) rfl k) ?_
  show own_Go p e below _ T1 (mkF m 13 #[rv a, iv 0, iv 3, rv w_B, iv 0, iv 3, .unset, .unset] [(.int 3), (.int 0), (.int 3)])
  obtain ⟨_, _, ⟨T2, L2, k2, n2⟩, -, X2, ⟨Lc2, hQ2, l2, y2, z2⟩, st2⟩ := Jvm.LawKit.callS X1 hx (y := (⟨"java/util/Arrays", "rangeCheck", "(III)V"⟩ : MethodName)) hown (mvT hZ (hw _ (List.mem_of_getElem? (i := 11) rfl))) (mvT hZ (hw _ (List.mem_of_getElem? (i := 12) rfl))) (mvT hZ (hw _ (List.mem_of_getElem? (i := 9) rfl))) (mvT hZ (hw _ (List.mem_of_getElem? (i := 13) rfl))) (by decide) (backOf (W := 0) (own_rm_rc l Z a0 hw [] (3 : Int32) h0 n0 Z0 (by decide)) hZ (hw _ (List.mem_of_getElem? (i := 13) rfl)) (hw _ (List.mem_of_getElem? (i := 9) rfl)) (by decide) (by decide)) (g := (mkF m 13 #[rv a, iv 0, iv 3, rv w_B, iv 0, iv 3, .unset, .unset] [(.int 3), (.int 0), (.int 3)])) rfl (by rw [hml]; rfl) (argsL := [(.int (3 : Int32)), (.int (0 : Int32)), (.int (3 : Int32))]) (rest := []) (lenOf own_pd0 rfl) rfl (by show 2 * 0 + _ ≤ _; exact Nat.le_of_eq rfl) (hb hby own_dq_13) (fun _ _ => ⟨rfl, eh1, (by decide : 0 + 0 ≤ _), (by decide : 0 + 0 ≤ _)⟩)
  dsimp only [Pt.U, Pt.locs, Pt.cells, Pt.slots] at X2 l2 y2 z2 st2 hQ2
  subst l2 y2 z2
  obtain ⟨rfl, N2, eh2⟩ := hQ2
  have M2 := Fr.app M1 N2
  refine own_st st2 ?_
  clear M1 X1 N2 eh1 st2
  show own_Go p e below _ T2 (mkF m 16 #[rv a, iv 0, iv 3, rv w_B, iv 0, iv 3, .unset, .unset] [])
  refine own_st (fun _ k => XS.iloadN X2.here hx rfl (hb hby own_dq_16) rfl k) ?_
  show own_Go p e below _ T2 (mkF m 17 #[rv a, iv 0, iv 3, rv w_B, iv 0, iv 3, .unset, .unset] [(.int 3)])
  refine own_st (fun _ k => XS.iloadN X2.here hx rfl (hb hby own_dq_17) rfl k) ?_
  show own_Go p e below _ T2 (mkF m 18 #[rv a, iv 0, iv 3, rv w_B, iv 0, iv 3, .unset, .unset] [(.int 0), (.int 3)])
  refine own_st (fun _ k => XS.isub X2.here hx rfl (hb hby own_dq_18) rfl k) ?_
  show own_Go p e below _ T2 (mkF m 19 #[rv a, iv 0, iv 3, rv w_B, iv 0, iv 3, .unset, .unset] [(.int (3 - 0))])
  refine own_st (fun _ k => XS.istore X2.here hx rfl (hb hby own_dq_19) rfl (l' := #[rv a, iv 0, iv 3, rv w_B, iv 0, iv 3, iv (3 - 0), .unset]) rfl k) ?_
  show own_Go p e below _ T2 (mkF m 21 #[rv a, iv 0, iv 3, rv w_B, iv 0, iv 3, iv (3 - 0), .unset] [])
  refine own_st (fun _ k => XS.iload X2.here hx rfl (hb hby own_dq_21) rfl k) ?_
  show own_Go p e below _ T2 (mkF m 23 #[rv a, iv 0, iv 3, rv w_B, iv 0, iv 3, iv (3 - 0), .unset] [(.int 3)])
  refine own_st (fun _ k => XS.iload X2.here hx rfl (hb hby own_dq_23) rfl k) ?_
  show own_Go p e below _ T2 (mkF m 25 #[rv a, iv 0, iv 3, rv w_B, iv 0, iv 3, iv (3 - 0), .unset] [(.int 0), (.int 3)])
  refine own_st (fun _ k => XS.isub X2.here hx rfl (hb hby own_dq_25) rfl k) ?_
  show own_Go p e below _ T2 (mkF m 26 #[rv a, iv 0, iv 3, rv w_B, iv 0, iv 3, iv (3 - 0), .unset] [(.int (3 - 0))])
  refine own_st (fun _ k => XS.istore X2.here hx rfl (hb hby own_dq_26) rfl (l' := #[rv a, iv 0, iv 3, rv w_B, iv 0, iv 3, iv (3 - 0), iv (3 - 0)]) rfl k) ?_
  show own_Go p e below _ T2 (mkF m 28 #[rv a, iv 0, iv 3, rv w_B, iv 0, iv 3, iv (3 - 0), iv (3 - 0)] [])
  refine own_st (fun _ k => XS.iload X2.here hx rfl (hb hby own_dq_28) rfl k) ?_
  show own_Go p e below _ T2 (mkF m 30 #[rv a, iv 0, iv 3, rv w_B, iv 0, iv 3, iv (3 - 0), iv (3 - 0)] [(.int (3 - 0))])
  refine own_st (fun _ k => XS.iload X2.here hx rfl (hb hby own_dq_30) rfl k) ?_
  show own_Go p e below _ T2 (mkF m 32 #[rv a, iv 0, iv 3, rv w_B, iv 0, iv 3, iv (3 - 0), iv (3 - 0)] [(.int (3 - 0)), (.int (3 - 0))])
  refine own_st (fun _ k => XS.icmpYes X2.here hx rfl (pc0 := 32) (pc' := 37) rfl (hb hby own_dq_32) rfl (XT.ii_eq_t (by decide)) (by decide) (by decide) k) ?_
  show own_Go p e below _ T2 (mkF m 37 #[rv a, iv 0, iv 3, rv w_B, iv 0, iv 3, iv (3 - 0), iv (3 - 0)] [])
  refine own_st (fun _ k => XS.aloadN X2.here hx rfl (hb hby own_dq_37) rfl rfl k) ?_
  show own_Go p e below _ T2 (mkF m 38 #[rv a, iv 0, iv 3, rv w_B, iv 0, iv 3, iv (3 - 0), iv (3 - 0)] [(.ref a)])
  refine own_st (fun _ k => XS.iloadN X2.here hx rfl (hb hby own_dq_38) rfl k) ?_
  show own_Go p e below _ T2 (mkF m 39 #[rv a, iv 0, iv 3, rv w_B, iv 0, iv 3, iv (3 - 0), iv (3 - 0)] [(.int 0), (.ref a)])
  refine own_st (fun _ k => XS.aloadN X2.here hx rfl (hb hby own_dq_39) rfl rfl k) ?_
  show own_Go p e below _ T2 (mkF m 40 #[rv a, iv 0, iv 3, rv w_B, iv 0, iv 3, iv (3 - 0), iv (3 - 0)] [(.ref w_B), (.int 0), (.ref a)])
  refine own_st (fun _ k => XS.iload X2.here hx rfl (hb hby own_dq_40) rfl k) ?_
  show own_Go p e below _ T2 (mkF m 42 #[rv a, iv 0, iv 3, rv w_B, iv 0, iv 3, iv (3 - 0), iv (3 - 0)] [(.int 0), (.ref w_B), (.int 0), (.ref a)])
  refine own_st (fun _ k => XS.iload X2.here hx rfl (hb hby own_dq_42) rfl k) ?_
  show own_Go p e below _ T2 (mkF m 44 #[rv a, iv 0, iv 3, rv w_B, iv 0, iv 3, iv (3 - 0), iv (3 - 0)] [(.int (3 - 0)), (.int 0), (.ref w_B), (.int 0), (.ref a)])
  rw [show (3 : Int32) - (0 : Int32) = (3 : Int32) from by decide]
  show own_Go p e below _ T2 (mkF m 44 #[rv a, iv 0, iv 3, rv w_B, iv 0, iv 3, iv 3, iv 3] [(.int 3), (.int 0), (.ref w_B), (.int 0), (.ref a)])
  obtain ⟨_, _, ⟨T3, L3, k3, n3⟩, -, X3, ⟨Lc3, hQ3, l3, y3, z3⟩, st3⟩ := Jvm.LawKit.callS X2 hx (y := (⟨"jdk/internal/util/ArraysSupport", "mismatch", "([BI[BII)I"⟩ : MethodName)) hown (mvT hZ (hw _ (List.mem_of_getElem? (i := 14) rfl))) (mvT hZ (hw _ (List.mem_of_getElem? (i := 15) rfl))) (mvT hZ (hw _ (List.mem_of_getElem? (i := 16) rfl))) (mvT hZ (hw _ (List.mem_of_getElem? (i := 17) rfl))) (by decide) (backOf (W := 0) (own_rm_mis l Z a0 hw [] a ka z vs v0 v1 v2 w_B kB h0 n0 Z0 VA VB hz g0 g1 g2) hZ (hw _ (List.mem_of_getElem? (i := 17) rfl)) (hw _ (List.mem_of_getElem? (i := 16) rfl)) (by decide) (by decide)) (g := (mkF m 44 #[rv a, iv 0, iv 3, rv w_B, iv 0, iv 3, iv 3, iv 3] [(.int 3), (.int 0), (.ref w_B), (.int 0), (.ref a)])) rfl (by rw [hml]; rfl) (argsL := [(.ref a), (.int (0 : Int32)), (.ref w_B), (.int (0 : Int32)), (.int (3 : Int32))]) (rest := []) (lenOf own_pd1 rfl) rfl (by show 2 * 0 + _ ≤ _; exact Nat.le_of_eq rfl) (hb hby own_dq_44) (fun _ _ => ⟨rfl, eh2, (by decide : 0 + 0 ≤ _), (by decide : 0 + 0 ≤ _)⟩)
  dsimp only [Pt.U, Pt.locs, Pt.cells, Pt.slots] at X3 l3 y3 z3 st3 hQ3
  subst l3 y3 z3
  obtain ⟨rfl, N3, eh3⟩ := hQ3
  have M3 := Fr.app M2 N3
  refine own_st st3 ?_
  clear M2 X2 N3 eh2 st3
  show own_Go p e below _ T3 (mkF m 47 #[rv a, iv 0, iv 3, rv w_B, iv 0, iv 3, iv 3, iv 3] [(.int (own_mis v0 v1 v2))])
  by_cases c0 : (own_mis v0 v1 v2) < 0
  · refine own_st (fun _ k => XS.ifNo X3.here hx rfl (hb hby own_dq_47) rfl (XT.i0_ge_f c0) k) ?_
    show own_Go p e below _ T3 (mkF m 50 #[rv a, iv 0, iv 3, rv w_B, iv 0, iv 3, iv 3, iv 3] [])
    refine own_st (fun _ k => XT.iconstV X3.here hx rfl (1 : Int32) (hb hby own_dq_50) (by decide) k) ?_
    show own_Go p e below _ T3 (mkF m 51 #[rv a, iv 0, iv 3, rv w_B, iv 0, iv 3, iv 3, iv 3] [(.int 1)])
    refine own_st (fun _ k => XS.goto X3.here hx rfl (pc0 := 51) (pc' := 55) rfl (hb hby own_dq_51) (by decide) (by decide) k) ?_
    show own_Go p e below _ T3 (mkF m 55 #[rv a, iv 0, iv 3, rv w_B, iv 0, iv 3, iv 3, iv 3] [(.int 1)])
    refine own_retN X3 hx Bd.notSynchronized (t := .boolean) Bd.returns (by simp) (hb hby own_dq_55) (by decide) (by decide) ?_
    rw [eh3]
    exact ⟨by simp [nar, c0], M3, rfl⟩
  · refine own_st (fun _ k => XS.ifYes X3.here hx rfl (pc0 := 47) (pc' := 54) rfl (hb hby own_dq_47) rfl (XT.i0_ge_t c0) (by decide) (by decide) k) ?_
    show own_Go p e below _ T3 (mkF m 54 #[rv a, iv 0, iv 3, rv w_B, iv 0, iv 3, iv 3, iv 3] [])
    refine own_st (fun _ k => XT.iconstV X3.here hx rfl (0 : Int32) (hb hby own_dq_54) (by decide) k) ?_
    show own_Go p e below _ T3 (mkF m 55 #[rv a, iv 0, iv 3, rv w_B, iv 0, iv 3, iv 3, iv 3] [(.int 0)])
    refine own_retN X3 hx Bd.notSynchronized (t := .boolean) Bd.returns (by simp) (hb hby own_dq_55) (by decide) (by decide) ?_
    rw [eh3]
    exact ⟨by simp [nar, c0], M3, rfl⟩
def own_bom (v0 v1 v2 : Int32) : Int32 := if v0 = (-17) ∧ v1 = (-69) ∧ v2 = (-65) then 3 else 0
theorem own_bom_mis (v0 v1 v2 : Int32) : (own_mis v0 v1 v2 < 0 → own_bom v0 v1 v2 = 3) ∧ (¬ own_mis v0 v1 v2 < 0 → own_bom v0 v1 v2 = 0) := by
  unfold own_mis own_bom
  by_cases c0 : v0 = (-17) <;> by_cases c1 : v1 = (-69) <;> by_cases c2 : v2 = (-65) <;> simp [c0, c1, c2] <;> decide
theorem own_ef_bom (m : MethodId) (x0 : Addr) : entryFrame m #[(.ref x0)] 2 = mkF m 0 #[.val (.ref x0), .unset] [] := by first | (simp [entryFrame, mkF, argsToLocals, Value.category]; done) | rfl
def own_Q_bom (Z : State) (a : Addr) (ka : ClassId) (z : Int32) (vs : List Value) (v0 : Int32) (v1 : Int32) (v2 : Int32) (w_B : Addr) (kB : ClassId) (h0 : Heap) (n0 : Nat) (v : Option Value) (h : Heap) (L : List Loc) : Prop := v = some (.int (own_bom v0 v1 v2)) ∧ Fr n0 L ∧ h = h0
set_option maxRecDepth 65536 in
set_option maxHeartbeats 40000000 in
theorem own_rm_bom (l : Launch) (Z : State) (a0 : Array Value) (hw : ∀ d ∈ tables_1, d.before a0 Z = true) (ws : List Jvm.Cond) (a : Addr) (ka : ClassId) (z : Int32) (vs : List Value) (v0 : Int32) (v1 : Int32) (v2 : Int32) (w_B : Addr) (kB : ClassId) (h0 : Heap) (n0 : Nat) (Z0 : n0 ≤ h0.size) (VA : Arv Z h0 a ka .byte z vs (.int 0)) (VB : Arv Z h0 w_B kB .byte 3 [.int (-17), .int (-69), .int (-65)] (.int 0)) (hz : (2 : Int32) < z) (g0 : vs.getD 0 (.int 0) = .int v0) (g1 : vs.getD 1 (.int 0) = .int v1) (g2 : vs.getD 2 (.int 0) = .int v2) (S_B : Sta Z h0 "com/example/broken_to_found/brokentofound/watch/UrlList" "BYTE_ORDER_MARK" "[B" (.ref w_B)) :
    MetFree l (⟨"com/example/broken_to_found/brokentofound/watch/UrlList", "byteOrderMarkLength", "([B)I"⟩ : MethodName) (head1 (Jvm.Cond.code (⟨"com/example/broken_to_found/brokentofound/watch/UrlList", "byteOrderMarkLength", "([B)I"⟩ : MethodName) prog_7_method_4_code 2 (some .int) :: ws) ({ frames := 2, cells := 0, slots := 0, locals := 80 } : Room)) (fun zz U => zz = #[(.ref a)] ∧ Z.Warmed39 U.vm ∧ U.heap = h0) (fun _ _ _ _ _ => True) (fun _ U zo U' => ∃ v L, zo = .returned v ∧ own_Q_bom Z a ka z vs v0 v1 v2 w_B kB h0 n0 v U'.heap L ∧ FrameEnd U zo U' L ({ frames := 2, cells := 0, slots := 0, locals := 80 } : Room).cells ({ frames := 2, cells := 0, slots := 0, locals := 80 } : Room).slots) := by
  refine MetFree.of_bodySF (plainFor_of_name own_pn2) hisR ?_
  intro p e s m args below meth c s₁ Bd hml0 hP hK
  obtain ⟨rfl, hZ, hh⟩ := hP
  have hx := Bd.exec
  have hby := Bd.bytes
  have hml : c.maxLocals = 2 := hml0
  have hown : s.vm.findClass "com/example/broken_to_found/brokentofound/watch/UrlList" = some m.cls := findClass_of_methodNamed Bd.named
  have hnm := (name_of_methodNamed Bd.named Bd.method).1
  have X0 : Stand p l e ({ frames := 2, cells := 0, slots := 0, locals := 80 } : Room) s m #[(.ref a)] below meth c s₁ [] 0 0 := Stand.of_body Bd
  have e0 : s₁.heap = h0 := by rw [← hh, Bd.state]; rfl
  have N0 := Fr.nil n0
  show own_Go p e below (own_K s (own_Q_bom Z a ka z vs v0 v1 v2 w_B kB h0 n0) ({ frames := 2, cells := 0, slots := 0, locals := 80 } : Room).cells ({ frames := 2, cells := 0, slots := 0, locals := 80 } : Room).slots) s₁ (entryFrame m #[(.ref a)] 2)
  rw [own_ef_bom m a]
  show own_Go p e below _ s₁ (mkF m 0 #[rv a, .unset] [])
  refine own_st (fun _ k => XS.aloadN X0.here hx rfl (hb hby own_db_0) rfl rfl k) ?_
  show own_Go p e below _ s₁ (mkF m 1 #[rv a, .unset] [(.ref a)])
  refine own_st (fun _ k => own_len X0 hx hZ e0 VA rfl rfl (hb hby own_db_1) k) ?_
  show own_Go p e below _ s₁ (mkF m 2 #[rv a, .unset] [(.int z)])
  obtain ⟨T1, X1, e1, st1⟩ := getS2 X0 hx hZ hown (host := "") (Or.inl (hw _ (List.mem_of_getElem? (i := 5) rfl))) Via.refl e0 S_B (g := (mkF m 2 #[rv a, .unset] [(.int z)])) rfl (hb hby own_db_2)
  clear X0 e0
  refine own_st st1 ?_
  clear st1
  show own_Go p e below _ T1 (mkF m 5 #[rv a, .unset] [(.ref w_B), (.int z)])
  refine own_st (fun _ k => own_len X1 hx hZ e1 VB rfl rfl (hb hby own_db_5) k) ?_
  show own_Go p e below _ T1 (mkF m 6 #[rv a, .unset] [(.int 3), (.int z)])
  refine own_st (fun _ k => XS.icmpNo X1.here hx rfl (hb hby own_db_6) rfl (XT.ii_lt_f (own_nlt3 hz)) k) ?_
  show own_Go p e below _ T1 (mkF m 9 #[rv a, .unset] [])
  refine own_st (fun _ k => XS.aloadN X1.here hx rfl (hb hby own_db_9) rfl rfl k) ?_
  show own_Go p e below _ T1 (mkF m 10 #[rv a, .unset] [(.ref a)])
  refine own_st (fun _ k => XT.iconstV X1.here hx rfl (0 : Int32) (hb hby own_db_10) (by decide) k) ?_
  show own_Go p e below _ T1 (mkF m 11 #[rv a, .unset] [(.int 0), (.ref a)])
  obtain ⟨T2, X2, e2, st2⟩ := getS2 X1 hx hZ hown (host := "") (Or.inl (hw _ (List.mem_of_getElem? (i := 5) rfl))) Via.refl e1 S_B (g := (mkF m 11 #[rv a, .unset] [(.int 0), (.ref a)])) rfl (hb hby own_db_11)
  clear X1 e1
  refine own_st st2 ?_
  clear st2
  show own_Go p e below _ T2 (mkF m 14 #[rv a, .unset] [(.ref w_B), (.int 0), (.ref a)])
  refine own_st (fun _ k => own_len X2 hx hZ e2 VB rfl rfl (hb hby own_db_14) k) ?_
  show own_Go p e below _ T2 (mkF m 15 #[rv a, .unset] [(.int 3), (.int 0), (.ref a)])
  obtain ⟨T3, X3, e3, st3⟩ := getS2 X2 hx hZ hown (host := "") (Or.inl (hw _ (List.mem_of_getElem? (i := 5) rfl))) Via.refl e2 S_B (g := (mkF m 15 #[rv a, .unset] [(.int 3), (.int 0), (.ref a)])) rfl (hb hby own_db_15)
  clear X2 e2
  refine own_st st3 ?_
  clear st3
  show own_Go p e below _ T3 (mkF m 18 #[rv a, .unset] [(.ref w_B), (.int 3), (.int 0), (.ref a)])
  refine own_st (fun _ k => XT.iconstV X3.here hx rfl (0 : Int32) (hb hby own_db_18) (by decide) k) ?_
  show own_Go p e below _ T3 (mkF m 19 #[rv a, .unset] [(.int 0), (.ref w_B), (.int 3), (.int 0), (.ref a)])
  obtain ⟨T4, X4, e4, st4⟩ := getS2 X3 hx hZ hown (host := "") (Or.inl (hw _ (List.mem_of_getElem? (i := 5) rfl))) Via.refl e3 S_B (g := (mkF m 19 #[rv a, .unset] [(.int 0), (.ref w_B), (.int 3), (.int 0), (.ref a)])) rfl (hb hby own_db_19)
  clear X3 e3
  refine own_st st4 ?_
  clear st4
  show own_Go p e below _ T4 (mkF m 22 #[rv a, .unset] [(.ref w_B), (.int 0), (.ref w_B), (.int 3), (.int 0), (.ref a)])
  refine own_st (fun _ k => own_len X4 hx hZ e4 VB rfl rfl (hb hby own_db_22) k) ?_
  show own_Go p e below _ T4 (mkF m 23 #[rv a, .unset] [(.int 3), (.int 0), (.ref w_B), (.int 3), (.int 0), (.ref a)])
  obtain ⟨_, _, ⟨T5, L5, k5, n5⟩, -, X5, ⟨Lc5, hQ5, l5, y5, z5⟩, st5⟩ := Jvm.LawKit.callS X4 hx (y := (⟨"java/util/Arrays", "equals", "([BII[BII)Z"⟩ : MethodName)) hown (mvT hZ (hw _ (List.mem_of_getElem? (i := 7) rfl))) (mvT hZ (hw _ (List.mem_of_getElem? (i := 8) rfl))) (mvT hZ (hw _ (List.mem_of_getElem? (i := 9) rfl))) (mvT hZ (hw _ (List.mem_of_getElem? (i := 10) rfl))) (by decide) (backOf (W := 0) (own_rm_eqs l Z a0 hw [] a ka z vs v0 v1 v2 w_B kB h0 n0 Z0 VA VB hz g0 g1 g2) hZ (hw _ (List.mem_of_getElem? (i := 10) rfl)) (hw _ (List.mem_of_getElem? (i := 9) rfl)) (by decide) (by decide)) (g := (mkF m 23 #[rv a, .unset] [(.int 3), (.int 0), (.ref w_B), (.int 3), (.int 0), (.ref a)])) rfl (by rw [hml]; rfl) (argsL := [(.ref a), (.int (0 : Int32)), (.int (3 : Int32)), (.ref w_B), (.int (0 : Int32)), (.int (3 : Int32))]) (rest := []) (lenOf own_pd2 rfl) rfl (by show 2 * 0 + _ ≤ _; exact Nat.le_of_eq rfl) (hb hby own_db_23) (fun _ _ => ⟨rfl, e4, (by decide : 0 + 0 ≤ _), (by decide : 0 + 0 ≤ _)⟩)
  dsimp only [Pt.U, Pt.locs, Pt.cells, Pt.slots] at X5 l5 y5 z5 st5 hQ5
  subst l5 y5 z5
  obtain ⟨rfl, N5, eh5⟩ := hQ5
  have M5 := Fr.app N0 N5
  refine own_st st5 ?_
  clear X4 N5 e4 st5
  show own_Go p e below _ T5 (mkF m 26 #[rv a, .unset] [(.int (if own_mis v0 v1 v2 < 0 then (1 : Int32) else (0 : Int32)))])
  by_cases c0 : own_mis v0 v1 v2 < 0
  · refine own_st (fun _ k => XS.ifNo X5.here hx rfl (hb hby own_db_26) rfl (XT.i0_eq_f (by simp [c0])) k) ?_
    show own_Go p e below _ T5 (mkF m 29 #[rv a, .unset] [])
    refine own_st (fun _ k => XT.iconstV X5.here hx rfl (1 : Int32) (hb hby own_db_29) (by decide) k) ?_
    show own_Go p e below _ T5 (mkF m 30 #[rv a, .unset] [(.int 1)])
    refine own_st (fun _ k => XS.goto X5.here hx rfl (pc0 := 30) (pc' := 34) rfl (hb hby own_db_30) (by decide) (by decide) k) ?_
    show own_Go p e below _ T5 (mkF m 34 #[rv a, .unset] [(.int 1)])
    refine own_st (fun _ k => XS.istoreN X5.here hx rfl (hb hby own_db_34) rfl (l' := #[rv a, iv 1]) rfl k) ?_
    show own_Go p e below _ T5 (mkF m 35 #[rv a, iv 1] [])
    refine own_st (fun _ k => XS.iloadN X5.here hx rfl (hb hby own_db_35) rfl k) ?_
    show own_Go p e below _ T5 (mkF m 36 #[rv a, iv 1] [(.int 1)])
    refine own_st (fun _ k => XS.ifNo X5.here hx rfl (hb hby own_db_36) rfl (XT.i0_eq_f (by decide)) k) ?_
    show own_Go p e below _ T5 (mkF m 39 #[rv a, iv 1] [])
    obtain ⟨T6, X6, e6, st6⟩ := getS2 X5 hx hZ hown (host := "") (Or.inl (hw _ (List.mem_of_getElem? (i := 5) rfl))) Via.refl eh5 S_B (g := (mkF m 39 #[rv a, iv 1] [])) rfl (hb hby own_db_39)
    clear X5 eh5
    refine own_st st6 ?_
    clear st6
    show own_Go p e below _ T6 (mkF m 42 #[rv a, iv 1] [(.ref w_B)])
    refine own_st (fun _ k => own_len X6 hx hZ e6 VB rfl rfl (hb hby own_db_42) k) ?_
    show own_Go p e below _ T6 (mkF m 43 #[rv a, iv 1] [(.int 3)])
    refine own_st (fun _ k => XS.goto X6.here hx rfl (pc0 := 43) (pc' := 47) rfl (hb hby own_db_43) (by decide) (by decide) k) ?_
    show own_Go p e below _ T6 (mkF m 47 #[rv a, iv 1] [(.int 3)])
    refine own_retI X6 hx Bd.notSynchronized Bd.returns (hb hby own_db_47) (by decide) (by decide) ?_
    rw [e6]
    exact ⟨by rw [(own_bom_mis v0 v1 v2).1 c0], M5, rfl⟩
  · refine own_st (fun _ k => XS.ifYes X5.here hx rfl (pc0 := 26) (pc' := 33) rfl (hb hby own_db_26) rfl (XT.i0_eq_t (by simp [c0])) (by decide) (by decide) k) ?_
    show own_Go p e below _ T5 (mkF m 33 #[rv a, .unset] [])
    refine own_st (fun _ k => XT.iconstV X5.here hx rfl (0 : Int32) (hb hby own_db_33) (by decide) k) ?_
    show own_Go p e below _ T5 (mkF m 34 #[rv a, .unset] [(.int 0)])
    refine own_st (fun _ k => XS.istoreN X5.here hx rfl (hb hby own_db_34) rfl (l' := #[rv a, iv 0]) rfl k) ?_
    show own_Go p e below _ T5 (mkF m 35 #[rv a, iv 0] [])
    refine own_st (fun _ k => XS.iloadN X5.here hx rfl (hb hby own_db_35) rfl k) ?_
    show own_Go p e below _ T5 (mkF m 36 #[rv a, iv 0] [(.int 0)])
    refine own_st (fun _ k => XS.ifYes X5.here hx rfl (pc0 := 36) (pc' := 46) rfl (hb hby own_db_36) rfl (XT.i0_eq_t (by decide)) (by decide) (by decide) k) ?_
    show own_Go p e below _ T5 (mkF m 46 #[rv a, iv 0] [])
    refine own_st (fun _ k => XT.iconstV X5.here hx rfl (0 : Int32) (hb hby own_db_46) (by decide) k) ?_
    show own_Go p e below _ T5 (mkF m 47 #[rv a, iv 0] [(.int 0)])
    refine own_retI X5 hx Bd.notSynchronized Bd.returns (hb hby own_db_47) (by decide) (by decide) ?_
    rw [eh5]
    exact ⟨by rw [(own_bom_mis v0 v1 v2).2 c0], M5, rfl⟩
theorem own_ef_bos (m : MethodId) (x0 : Addr) : entryFrame m #[(.ref x0)] 2 = mkF m 0 #[.val (.ref x0), .unset] [] := by first | (simp [entryFrame, mkF, argsToLocals, Value.category]; done) | rfl
def own_Q_bos (Z : State) (a : Addr) (ka : ClassId) (z : Int32) (vs : List Value) (w_B : Addr) (kB : ClassId) (h0 : Heap) (n0 : Nat) (v : Option Value) (h : Heap) (L : List Loc) : Prop := v = some (.int 0) ∧ Fr n0 L ∧ h = h0
set_option maxRecDepth 65536 in
set_option maxHeartbeats 40000000 in
theorem own_rm_bos (l : Launch) (Z : State) (a0 : Array Value) (hw : ∀ d ∈ tables_1, d.before a0 Z = true) (ws : List Jvm.Cond) (a : Addr) (ka : ClassId) (z : Int32) (vs : List Value) (w_B : Addr) (kB : ClassId) (h0 : Heap) (n0 : Nat) (Z0 : n0 ≤ h0.size) (VA : Arv Z h0 a ka .byte z vs (.int 0)) (VB : Arv Z h0 w_B kB .byte 3 [.int (-17), .int (-69), .int (-65)] (.int 0)) (hz : z < (3 : Int32)) (S_B : Sta Z h0 "com/example/broken_to_found/brokentofound/watch/UrlList" "BYTE_ORDER_MARK" "[B" (.ref w_B)) :
    MetFree l (⟨"com/example/broken_to_found/brokentofound/watch/UrlList", "byteOrderMarkLength", "([B)I"⟩ : MethodName) (head1 (Jvm.Cond.code (⟨"com/example/broken_to_found/brokentofound/watch/UrlList", "byteOrderMarkLength", "([B)I"⟩ : MethodName) prog_7_method_4_code 2 (some .int) :: ws) ({ frames := 0, cells := 0, slots := 0, locals := 0 } : Room)) (fun zz U => zz = #[(.ref a)] ∧ Z.Warmed39 U.vm ∧ U.heap = h0) (fun _ _ _ _ _ => True) (fun _ U zo U' => ∃ v L, zo = .returned v ∧ own_Q_bos Z a ka z vs w_B kB h0 n0 v U'.heap L ∧ FrameEnd U zo U' L ({ frames := 0, cells := 0, slots := 0, locals := 0 } : Room).cells ({ frames := 0, cells := 0, slots := 0, locals := 0 } : Room).slots) := by
  refine MetFree.of_bodySF (plainFor_of_name own_pn2) hisR ?_
  intro p e s m args below meth c s₁ Bd hml0 hP hK
  obtain ⟨rfl, hZ, hh⟩ := hP
  have hx := Bd.exec
  have hby := Bd.bytes
  have hml : c.maxLocals = 2 := hml0
  have hown : s.vm.findClass "com/example/broken_to_found/brokentofound/watch/UrlList" = some m.cls := findClass_of_methodNamed Bd.named
  have hnm := (name_of_methodNamed Bd.named Bd.method).1
  have X0 : Stand p l e ({ frames := 0, cells := 0, slots := 0, locals := 0 } : Room) s m #[(.ref a)] below meth c s₁ [] 0 0 := Stand.of_body Bd
  have e0 : s₁.heap = h0 := by rw [← hh, Bd.state]; rfl
  have N0 := Fr.nil n0
  show own_Go p e below (own_K s (own_Q_bos Z a ka z vs w_B kB h0 n0) ({ frames := 0, cells := 0, slots := 0, locals := 0 } : Room).cells ({ frames := 0, cells := 0, slots := 0, locals := 0 } : Room).slots) s₁ (entryFrame m #[(.ref a)] 2)
  rw [own_ef_bos m a]
  show own_Go p e below _ s₁ (mkF m 0 #[rv a, .unset] [])
  refine own_st (fun _ k => XS.aloadN X0.here hx rfl (hb hby own_db_0) rfl rfl k) ?_
  show own_Go p e below _ s₁ (mkF m 1 #[rv a, .unset] [(.ref a)])
  refine own_st (fun _ k => own_len X0 hx hZ e0 VA rfl rfl (hb hby own_db_1) k) ?_
  show own_Go p e below _ s₁ (mkF m 2 #[rv a, .unset] [(.int z)])
  obtain ⟨T1, X1, e1, st1⟩ := getS2 X0 hx hZ hown (host := "") (Or.inl (hw _ (List.mem_of_getElem? (i := 5) rfl))) Via.refl e0 S_B (g := (mkF m 2 #[rv a, .unset] [(.int z)])) rfl (hb hby own_db_2)
  clear X0 e0
  refine own_st st1 ?_
  clear st1
  show own_Go p e below _ T1 (mkF m 5 #[rv a, .unset] [(.ref w_B), (.int z)])
  refine own_st (fun _ k => own_len X1 hx hZ e1 VB rfl rfl (hb hby own_db_5) k) ?_
  show own_Go p e below _ T1 (mkF m 6 #[rv a, .unset] [(.int 3), (.int z)])
  refine own_st (fun _ k => XS.icmpYes X1.here hx rfl (pc0 := 6) (pc' := 33) rfl (hb hby own_db_6) rfl (XT.ii_lt_t hz) (by decide) (by decide) k) ?_
  show own_Go p e below _ T1 (mkF m 33 #[rv a, .unset] [])
  refine own_st (fun _ k => XT.iconstV X1.here hx rfl (0 : Int32) (hb hby own_db_33) (by decide) k) ?_
  show own_Go p e below _ T1 (mkF m 34 #[rv a, .unset] [(.int 0)])
  refine own_st (fun _ k => XS.istoreN X1.here hx rfl (hb hby own_db_34) rfl (l' := #[rv a, iv 0]) rfl k) ?_
  show own_Go p e below _ T1 (mkF m 35 #[rv a, iv 0] [])
  refine own_st (fun _ k => XS.iloadN X1.here hx rfl (hb hby own_db_35) rfl k) ?_
  show own_Go p e below _ T1 (mkF m 36 #[rv a, iv 0] [(.int 0)])
  refine own_st (fun _ k => XS.ifYes X1.here hx rfl (pc0 := 36) (pc' := 46) rfl (hb hby own_db_36) rfl (XT.i0_eq_t (by decide)) (by decide) (by decide) k) ?_
  show own_Go p e below _ T1 (mkF m 46 #[rv a, iv 0] [])
  refine own_st (fun _ k => XT.iconstV X1.here hx rfl (0 : Int32) (hb hby own_db_46) (by decide) k) ?_
  show own_Go p e below _ T1 (mkF m 47 #[rv a, iv 0] [(.int 0)])
  refine own_retI X1 hx Bd.notSynchronized Bd.returns (hb hby own_db_47) (by decide) (by decide) ?_
  rw [e1]
  exact ⟨rfl, N0, rfl⟩
theorem own_byte (x : Int32) : x.toInt8.toInt32.toInt8.toInt32 = x.toInt8.toInt32 := by simp
theorem own_mask7 (x : Int32) : ∃ i : Int32, (x &&& (7 : Int32)) = i ∧ (i = 0 ∨ i = 1 ∨ i = 2 ∨ i = 3 ∨ i = 4 ∨ i = 5 ∨ i = 6 ∨ i = 7) := by
  have e1 : (x &&& (7 : Int32)).toInt = x.toInt % 2 ^ 3 := Jvm.Kit.i32_mask x 7 (k := 3) (by decide) (by decide)
  have e2 : (x &&& (7 : Int32)) = Int32.ofNat (x.toInt % 2 ^ 3).toNat := by
    apply Int32.toInt_inj.mp
    rw [e1, Int32.toInt_ofNat_of_lt (by omega)]
    omega
  refine ⟨_, e2, ?_⟩
  have hk' : (x.toInt % 2 ^ 3).toNat = 0 ∨ (x.toInt % 2 ^ 3).toNat = 1 ∨ (x.toInt % 2 ^ 3).toNat = 2 ∨ (x.toInt % 2 ^ 3).toNat = 3 ∨ (x.toInt % 2 ^ 3).toNat = 4 ∨ (x.toInt % 2 ^ 3).toNat = 5 ∨ (x.toInt % 2 ^ 3).toNat = 6 ∨ (x.toInt % 2 ^ 3).toNat = 7 := by omega
  rcases hk' with h | h | h | h | h | h | h | h <;> rw [h] <;> decide
theorem own_ef_law (m : MethodId) (x0 : Int32) (x1 : Int32) (x2 : Int32) (x3 : Int32) (x4 : Int32) (x5 : Int32) : entryFrame m #[(.int x0), (.int x1), (.int x2), (.int x3), (.int x4), (.int x5)] maxLocals = mkF m 0 #[.val (.int x0), .val (.int x1), .val (.int x2), .val (.int x3), .val (.int x4), .val (.int x5), .unset, .unset, .unset, .unset, .unset, .unset, .unset, .unset, .unset, .unset, .unset, .unset, .unset] [] := by first | (simp [entryFrame, mkF, argsToLocals, Value.category, maxLocals]; done) | rfl
def own_Q_law (Z : State) (p0 : Int32) (p1 : Int32) (p2 : Int32) (p3 : Int32) (p4 : Int32) (p5 : Int32) (w_B : Addr) (kB : ClassId) (h0 : Heap) (n0 : Nat) (v : Option Value) (h : Heap) (L : List Loc) : Prop := v = some (.int 1) ∧ Fr n0 L
set_option maxRecDepth 65536 in
set_option maxHeartbeats 40000000 in
theorem own_rm_law (l : Launch) (Z : State) (a0 : Array Value) (hw : ∀ d ∈ tables_1, d.before a0 Z = true) (ws : List Jvm.Cond) (p0 : Int32) (p1 : Int32) (p2 : Int32) (p3 : Int32) (p4 : Int32) (p5 : Int32) (w_B : Addr) (kB : ClassId) (h0 : Heap) (n0 : Nat) (Z0 : n0 ≤ h0.size) (O0 : Old Z n0 h0) (VB : Arv Z Z.heap w_B kB .byte 3 [.int (-17), .int (-69), .int (-65)] (.int 0)) (S_B : Sta Z Z.heap "com/example/broken_to_found/brokentofound/watch/UrlList" "BYTE_ORDER_MARK" "[B" (.ref w_B)) :
    MetFree l x (head1 (Jvm.Cond.code x code maxLocals ret :: ws) room_1) (fun zz U => zz = #[(.int p0), (.int p1), (.int p2), (.int p3), (.int p4), (.int p5)] ∧ Z.Warmed39 U.vm ∧ U.heap = h0) (fun _ _ _ _ _ => True) (fun _ U zo U' => ∃ v L, zo = .returned v ∧ own_Q_law Z p0 p1 p2 p3 p4 p5 w_B kB h0 n0 v U'.heap L ∧ FrameEnd U zo U' L 16 128) := by
  refine MetFree.of_bodySF (plainFor_of_name own_pn3) hisR ?_
  intro p e s m args below meth c s₁ Bd hml0 hP hK
  obtain ⟨rfl, hZ, hh⟩ := hP
  have hx := Bd.exec
  have hby := Bd.bytes
  have hml : c.maxLocals = 19 := hml0
  have hown : s.vm.findClass "com/example/broken_to_found/brokentofound/watch/UrlListByteOrderMarkLengthPinLaw" = some m.cls := findClass_of_methodNamed Bd.named
  have hnm := (name_of_methodNamed Bd.named Bd.method).1
  have X0 : Stand p l e room_1 s m #[(.int p0), (.int p1), (.int p2), (.int p3), (.int p4), (.int p5)] below meth c s₁ [] 0 0 := Stand.of_body Bd
  have e0 : s₁.heap = h0 := by rw [← hh, Bd.state]; rfl
  have N0 := Fr.nil n0
  show own_Go p e below (own_K s (own_Q_law Z p0 p1 p2 p3 p4 p5 w_B kB h0 n0) 16 128) s₁ (entryFrame m #[(.int p0), (.int p1), (.int p2), (.int p3), (.int p4), (.int p5)] maxLocals)
  rw [own_ef_law m p0 p1 p2 p3 p4 p5]
  show own_Go p e below _ s₁ (mkF m 0 #[iv p0, iv p1, iv p2, iv p3, iv p4, iv p5, .unset, .unset, .unset, .unset, .unset, .unset, .unset, .unset, .unset, .unset, .unset, .unset, .unset] [])
  obtain ⟨i, hi, hc⟩ := own_mask7 p0
  refine own_st (fun _ k => XS.iloadN X0.here hx rfl (hb hby at_0) rfl k) ?_
  show own_Go p e below _ s₁ (mkF m 1 #[iv p0, iv p1, iv p2, iv p3, iv p4, iv p5, .unset, .unset, .unset, .unset, .unset, .unset, .unset, .unset, .unset, .unset, .unset, .unset, .unset] [(.int p0)])
  refine own_st (fun _ k => XT.bipushV X0.here hx rfl (7 : Int32) (hb hby at_1) (by decide) k) ?_
  show own_Go p e below _ s₁ (mkF m 3 #[iv p0, iv p1, iv p2, iv p3, iv p4, iv p5, .unset, .unset, .unset, .unset, .unset, .unset, .unset, .unset, .unset, .unset, .unset, .unset, .unset] [(.int 7), (.int p0)])
  refine own_st (fun _ k => XS.iand X0.here hx rfl (hb hby at_3) rfl k) ?_
  show own_Go p e below _ s₁ (mkF m 4 #[iv p0, iv p1, iv p2, iv p3, iv p4, iv p5, .unset, .unset, .unset, .unset, .unset, .unset, .unset, .unset, .unset, .unset, .unset, .unset, .unset] [(.int (p0 &&& 7))])
  rw [hi]
  show own_Go p e below _ s₁ (mkF m 4 #[iv p0, iv p1, iv p2, iv p3, iv p4, iv p5, .unset, .unset, .unset, .unset, .unset, .unset, .unset, .unset, .unset, .unset, .unset, .unset, .unset] [(.int i)])
  refine own_st (fun _ k => XS.istore X0.here hx rfl (hb hby at_4) rfl (l' := #[iv p0, iv p1, iv p2, iv p3, iv p4, iv p5, iv i, .unset, .unset, .unset, .unset, .unset, .unset, .unset, .unset, .unset, .unset, .unset, .unset]) rfl k) ?_
  show own_Go p e below _ s₁ (mkF m 6 #[iv p0, iv p1, iv p2, iv p3, iv p4, iv p5, iv i, .unset, .unset, .unset, .unset, .unset, .unset, .unset, .unset, .unset, .unset, .unset, .unset] [])
  refine own_st (fun _ k => XS.iload X0.here hx rfl (hb hby at_6) rfl k) ?_
  show own_Go p e below _ s₁ (mkF m 8 #[iv p0, iv p1, iv p2, iv p3, iv p4, iv p5, iv i, .unset, .unset, .unset, .unset, .unset, .unset, .unset, .unset, .unset, .unset, .unset, .unset] [(.int p5)])
  refine own_st (fun _ k => XT.iconstV X0.here hx rfl (1 : Int32) (hb hby at_8) (by decide) k) ?_
  show own_Go p e below _ s₁ (mkF m 9 #[iv p0, iv p1, iv p2, iv p3, iv p4, iv p5, iv i, .unset, .unset, .unset, .unset, .unset, .unset, .unset, .unset, .unset, .unset, .unset, .unset] [(.int 1), (.int p5)])
  refine own_st (fun _ k => XS.iand X0.here hx rfl (hb hby at_9) rfl k) ?_
  show own_Go p e below _ s₁ (mkF m 10 #[iv p0, iv p1, iv p2, iv p3, iv p4, iv p5, iv i, .unset, .unset, .unset, .unset, .unset, .unset, .unset, .unset, .unset, .unset, .unset, .unset] [(.int (p5 &&& 1))])
  have KJ0 : ∀ bx0 : Int32, bx0.toInt8.toInt32 = bx0 → own_Go p e below (own_K s (own_Q_law Z p0 p1 p2 p3 p4 p5 w_B kB h0 n0) 16 128) s₁ (mkF m 20 #[iv p0, iv p1, iv p2, iv p3, iv p4, iv p5, iv i, .unset, .unset, .unset, .unset, .unset, .unset, .unset, .unset, .unset, .unset, .unset, .unset] [(.int bx0)]) := by
    intro bx0 ok0
    show own_Go p e below _ s₁ (mkF m 20 #[iv p0, iv p1, iv p2, iv p3, iv p4, iv p5, iv i, .unset, .unset, .unset, .unset, .unset, .unset, .unset, .unset, .unset, .unset, .unset, .unset] [(.int bx0)])
    refine own_st (fun _ k => XS.istore X0.here hx rfl (hb hby at_20) rfl (l' := #[iv p0, iv p1, iv p2, iv p3, iv p4, iv p5, iv i, iv bx0, .unset, .unset, .unset, .unset, .unset, .unset, .unset, .unset, .unset, .unset, .unset]) rfl k) ?_
    show own_Go p e below _ s₁ (mkF m 22 #[iv p0, iv p1, iv p2, iv p3, iv p4, iv p5, iv i, iv bx0, .unset, .unset, .unset, .unset, .unset, .unset, .unset, .unset, .unset, .unset, .unset] [])
    refine own_st (fun _ k => XS.iload X0.here hx rfl (hb hby at_22) rfl k) ?_
    show own_Go p e below _ s₁ (mkF m 24 #[iv p0, iv p1, iv p2, iv p3, iv p4, iv p5, iv i, iv bx0, .unset, .unset, .unset, .unset, .unset, .unset, .unset, .unset, .unset, .unset, .unset] [(.int p5)])
    refine own_st (fun _ k => XT.iconstV X0.here hx rfl (2 : Int32) (hb hby at_24) (by decide) k) ?_
    show own_Go p e below _ s₁ (mkF m 25 #[iv p0, iv p1, iv p2, iv p3, iv p4, iv p5, iv i, iv bx0, .unset, .unset, .unset, .unset, .unset, .unset, .unset, .unset, .unset, .unset, .unset] [(.int 2), (.int p5)])
    refine own_st (fun _ k => XS.iand X0.here hx rfl (hb hby at_25) rfl k) ?_
    show own_Go p e below _ s₁ (mkF m 26 #[iv p0, iv p1, iv p2, iv p3, iv p4, iv p5, iv i, iv bx0, .unset, .unset, .unset, .unset, .unset, .unset, .unset, .unset, .unset, .unset, .unset] [(.int (p5 &&& 2))])
    have KJ1 : ∀ bx1 : Int32, bx1.toInt8.toInt32 = bx1 → own_Go p e below (own_K s (own_Q_law Z p0 p1 p2 p3 p4 p5 w_B kB h0 n0) 16 128) s₁ (mkF m 36 #[iv p0, iv p1, iv p2, iv p3, iv p4, iv p5, iv i, iv bx0, .unset, .unset, .unset, .unset, .unset, .unset, .unset, .unset, .unset, .unset, .unset] [(.int bx1)]) := by
      intro bx1 ok1
      show own_Go p e below _ s₁ (mkF m 36 #[iv p0, iv p1, iv p2, iv p3, iv p4, iv p5, iv i, iv bx0, .unset, .unset, .unset, .unset, .unset, .unset, .unset, .unset, .unset, .unset, .unset] [(.int bx1)])
      refine own_st (fun _ k => XS.istore X0.here hx rfl (hb hby at_36) rfl (l' := #[iv p0, iv p1, iv p2, iv p3, iv p4, iv p5, iv i, iv bx0, iv bx1, .unset, .unset, .unset, .unset, .unset, .unset, .unset, .unset, .unset, .unset]) rfl k) ?_
      show own_Go p e below _ s₁ (mkF m 38 #[iv p0, iv p1, iv p2, iv p3, iv p4, iv p5, iv i, iv bx0, iv bx1, .unset, .unset, .unset, .unset, .unset, .unset, .unset, .unset, .unset, .unset] [])
      refine own_st (fun _ k => XS.iload X0.here hx rfl (hb hby at_38) rfl k) ?_
      show own_Go p e below _ s₁ (mkF m 40 #[iv p0, iv p1, iv p2, iv p3, iv p4, iv p5, iv i, iv bx0, iv bx1, .unset, .unset, .unset, .unset, .unset, .unset, .unset, .unset, .unset, .unset] [(.int p5)])
      refine own_st (fun _ k => XT.iconstV X0.here hx rfl (4 : Int32) (hb hby at_40) (by decide) k) ?_
      show own_Go p e below _ s₁ (mkF m 41 #[iv p0, iv p1, iv p2, iv p3, iv p4, iv p5, iv i, iv bx0, iv bx1, .unset, .unset, .unset, .unset, .unset, .unset, .unset, .unset, .unset, .unset] [(.int 4), (.int p5)])
      refine own_st (fun _ k => XS.iand X0.here hx rfl (hb hby at_41) rfl k) ?_
      show own_Go p e below _ s₁ (mkF m 42 #[iv p0, iv p1, iv p2, iv p3, iv p4, iv p5, iv i, iv bx0, iv bx1, .unset, .unset, .unset, .unset, .unset, .unset, .unset, .unset, .unset, .unset] [(.int (p5 &&& 4))])
      have KJ2 : ∀ bx2 : Int32, bx2.toInt8.toInt32 = bx2 → own_Go p e below (own_K s (own_Q_law Z p0 p1 p2 p3 p4 p5 w_B kB h0 n0) 16 128) s₁ (mkF m 52 #[iv p0, iv p1, iv p2, iv p3, iv p4, iv p5, iv i, iv bx0, iv bx1, .unset, .unset, .unset, .unset, .unset, .unset, .unset, .unset, .unset, .unset] [(.int bx2)]) := by
        intro bx2 ok2
        show own_Go p e below _ s₁ (mkF m 52 #[iv p0, iv p1, iv p2, iv p3, iv p4, iv p5, iv i, iv bx0, iv bx1, .unset, .unset, .unset, .unset, .unset, .unset, .unset, .unset, .unset, .unset] [(.int bx2)])
        refine own_st (fun _ k => XS.istore X0.here hx rfl (hb hby at_52) rfl (l' := #[iv p0, iv p1, iv p2, iv p3, iv p4, iv p5, iv i, iv bx0, iv bx1, iv bx2, .unset, .unset, .unset, .unset, .unset, .unset, .unset, .unset, .unset]) rfl k) ?_
        show own_Go p e below _ s₁ (mkF m 54 #[iv p0, iv p1, iv p2, iv p3, iv p4, iv p5, iv i, iv bx0, iv bx1, iv bx2, .unset, .unset, .unset, .unset, .unset, .unset, .unset, .unset, .unset] [])
        refine own_st (fun _ k => XS.iload X0.here hx rfl (hb hby at_54) rfl k) ?_
        show own_Go p e below _ s₁ (mkF m 56 #[iv p0, iv p1, iv p2, iv p3, iv p4, iv p5, iv i, iv bx0, iv bx1, iv bx2, .unset, .unset, .unset, .unset, .unset, .unset, .unset, .unset, .unset] [(.int p4)])
        refine own_st (fun _ k => XT.i2b X0.here hx rfl (hb hby at_56) rfl k) ?_
        show own_Go p e below _ s₁ (mkF m 57 #[iv p0, iv p1, iv p2, iv p3, iv p4, iv p5, iv i, iv bx0, iv bx1, iv bx2, .unset, .unset, .unset, .unset, .unset, .unset, .unset, .unset, .unset] [(.int p4.toInt8.toInt32)])
        obtain ⟨bx3, hx3, ok3⟩ : ∃ x : Int32, p4.toInt8.toInt32 = x ∧ x.toInt8.toInt32 = x := ⟨_, rfl, own_byte _⟩
        rw [hx3]
        show own_Go p e below _ s₁ (mkF m 57 #[iv p0, iv p1, iv p2, iv p3, iv p4, iv p5, iv i, iv bx0, iv bx1, iv bx2, .unset, .unset, .unset, .unset, .unset, .unset, .unset, .unset, .unset] [(.int bx3)])
        refine own_st (fun _ k => XS.istore X0.here hx rfl (hb hby at_57) rfl (l' := #[iv p0, iv p1, iv p2, iv p3, iv p4, iv p5, iv i, iv bx0, iv bx1, iv bx2, iv bx3, .unset, .unset, .unset, .unset, .unset, .unset, .unset, .unset]) rfl k) ?_
        show own_Go p e below _ s₁ (mkF m 59 #[iv p0, iv p1, iv p2, iv p3, iv p4, iv p5, iv i, iv bx0, iv bx1, iv bx2, iv bx3, .unset, .unset, .unset, .unset, .unset, .unset, .unset, .unset] [])
        refine own_st (fun _ k => XS.iload X0.here hx rfl (hb hby at_59) rfl k) ?_
        show own_Go p e below _ s₁ (mkF m 61 #[iv p0, iv p1, iv p2, iv p3, iv p4, iv p5, iv i, iv bx0, iv bx1, iv bx2, iv bx3, .unset, .unset, .unset, .unset, .unset, .unset, .unset, .unset] [(.int p4)])
        refine own_st (fun _ k => XT.bipushV X0.here hx rfl (8 : Int32) (hb hby at_61) (by decide) k) ?_
        show own_Go p e below _ s₁ (mkF m 63 #[iv p0, iv p1, iv p2, iv p3, iv p4, iv p5, iv i, iv bx0, iv bx1, iv bx2, iv bx3, .unset, .unset, .unset, .unset, .unset, .unset, .unset, .unset] [(.int 8), (.int p4)])
        refine own_st (fun _ k => XT.ishr X0.here hx rfl (hb hby at_63) rfl k) ?_
        show own_Go p e below _ s₁ (mkF m 64 #[iv p0, iv p1, iv p2, iv p3, iv p4, iv p5, iv i, iv bx0, iv bx1, iv bx2, iv bx3, .unset, .unset, .unset, .unset, .unset, .unset, .unset, .unset] [(.int (p4 >>> (8 &&& 31)))])
        refine own_st (fun _ k => XT.i2b X0.here hx rfl (hb hby at_64) rfl k) ?_
        show own_Go p e below _ s₁ (mkF m 65 #[iv p0, iv p1, iv p2, iv p3, iv p4, iv p5, iv i, iv bx0, iv bx1, iv bx2, iv bx3, .unset, .unset, .unset, .unset, .unset, .unset, .unset, .unset] [(.int (p4 >>> (8 &&& 31)).toInt8.toInt32)])
        obtain ⟨bx4, hx4, ok4⟩ : ∃ x : Int32, (p4 >>> ((8 : Int32) &&& 31)).toInt8.toInt32 = x ∧ x.toInt8.toInt32 = x := ⟨_, rfl, own_byte _⟩
        rw [hx4]
        show own_Go p e below _ s₁ (mkF m 65 #[iv p0, iv p1, iv p2, iv p3, iv p4, iv p5, iv i, iv bx0, iv bx1, iv bx2, iv bx3, .unset, .unset, .unset, .unset, .unset, .unset, .unset, .unset] [(.int bx4)])
        refine own_st (fun _ k => XS.istore X0.here hx rfl (hb hby at_65) rfl (l' := #[iv p0, iv p1, iv p2, iv p3, iv p4, iv p5, iv i, iv bx0, iv bx1, iv bx2, iv bx3, iv bx4, .unset, .unset, .unset, .unset, .unset, .unset, .unset]) rfl k) ?_
        show own_Go p e below _ s₁ (mkF m 67 #[iv p0, iv p1, iv p2, iv p3, iv p4, iv p5, iv i, iv bx0, iv bx1, iv bx2, iv bx3, iv bx4, .unset, .unset, .unset, .unset, .unset, .unset, .unset] [])
        refine own_st (fun _ k => XS.iload X0.here hx rfl (hb hby at_67) rfl k) ?_
        show own_Go p e below _ s₁ (mkF m 69 #[iv p0, iv p1, iv p2, iv p3, iv p4, iv p5, iv i, iv bx0, iv bx1, iv bx2, iv bx3, iv bx4, .unset, .unset, .unset, .unset, .unset, .unset, .unset] [(.int p4)])
        refine own_st (fun _ k => XT.bipushV X0.here hx rfl (16 : Int32) (hb hby at_69) (by decide) k) ?_
        show own_Go p e below _ s₁ (mkF m 71 #[iv p0, iv p1, iv p2, iv p3, iv p4, iv p5, iv i, iv bx0, iv bx1, iv bx2, iv bx3, iv bx4, .unset, .unset, .unset, .unset, .unset, .unset, .unset] [(.int 16), (.int p4)])
        refine own_st (fun _ k => XT.ishr X0.here hx rfl (hb hby at_71) rfl k) ?_
        show own_Go p e below _ s₁ (mkF m 72 #[iv p0, iv p1, iv p2, iv p3, iv p4, iv p5, iv i, iv bx0, iv bx1, iv bx2, iv bx3, iv bx4, .unset, .unset, .unset, .unset, .unset, .unset, .unset] [(.int (p4 >>> (16 &&& 31)))])
        refine own_st (fun _ k => XT.i2b X0.here hx rfl (hb hby at_72) rfl k) ?_
        show own_Go p e below _ s₁ (mkF m 73 #[iv p0, iv p1, iv p2, iv p3, iv p4, iv p5, iv i, iv bx0, iv bx1, iv bx2, iv bx3, iv bx4, .unset, .unset, .unset, .unset, .unset, .unset, .unset] [(.int (p4 >>> (16 &&& 31)).toInt8.toInt32)])
        obtain ⟨bx5, hx5, ok5⟩ : ∃ x : Int32, (p4 >>> ((16 : Int32) &&& 31)).toInt8.toInt32 = x ∧ x.toInt8.toInt32 = x := ⟨_, rfl, own_byte _⟩
        rw [hx5]
        show own_Go p e below _ s₁ (mkF m 73 #[iv p0, iv p1, iv p2, iv p3, iv p4, iv p5, iv i, iv bx0, iv bx1, iv bx2, iv bx3, iv bx4, .unset, .unset, .unset, .unset, .unset, .unset, .unset] [(.int bx5)])
        refine own_st (fun _ k => XS.istore X0.here hx rfl (hb hby at_73) rfl (l' := #[iv p0, iv p1, iv p2, iv p3, iv p4, iv p5, iv i, iv bx0, iv bx1, iv bx2, iv bx3, iv bx4, iv bx5, .unset, .unset, .unset, .unset, .unset, .unset]) rfl k) ?_
        show own_Go p e below _ s₁ (mkF m 75 #[iv p0, iv p1, iv p2, iv p3, iv p4, iv p5, iv i, iv bx0, iv bx1, iv bx2, iv bx3, iv bx4, iv bx5, .unset, .unset, .unset, .unset, .unset, .unset] [])
        refine own_st (fun _ k => XS.iload X0.here hx rfl (hb hby at_75) rfl k) ?_
        show own_Go p e below _ s₁ (mkF m 77 #[iv p0, iv p1, iv p2, iv p3, iv p4, iv p5, iv i, iv bx0, iv bx1, iv bx2, iv bx3, iv bx4, iv bx5, .unset, .unset, .unset, .unset, .unset, .unset] [(.int p4)])
        refine own_st (fun _ k => XT.bipushV X0.here hx rfl (24 : Int32) (hb hby at_77) (by decide) k) ?_
        show own_Go p e below _ s₁ (mkF m 79 #[iv p0, iv p1, iv p2, iv p3, iv p4, iv p5, iv i, iv bx0, iv bx1, iv bx2, iv bx3, iv bx4, iv bx5, .unset, .unset, .unset, .unset, .unset, .unset] [(.int 24), (.int p4)])
        refine own_st (fun _ k => XT.ishr X0.here hx rfl (hb hby at_79) rfl k) ?_
        show own_Go p e below _ s₁ (mkF m 80 #[iv p0, iv p1, iv p2, iv p3, iv p4, iv p5, iv i, iv bx0, iv bx1, iv bx2, iv bx3, iv bx4, iv bx5, .unset, .unset, .unset, .unset, .unset, .unset] [(.int (p4 >>> (24 &&& 31)))])
        refine own_st (fun _ k => XT.i2b X0.here hx rfl (hb hby at_80) rfl k) ?_
        show own_Go p e below _ s₁ (mkF m 81 #[iv p0, iv p1, iv p2, iv p3, iv p4, iv p5, iv i, iv bx0, iv bx1, iv bx2, iv bx3, iv bx4, iv bx5, .unset, .unset, .unset, .unset, .unset, .unset] [(.int (p4 >>> (24 &&& 31)).toInt8.toInt32)])
        obtain ⟨bx6, hx6, ok6⟩ : ∃ x : Int32, (p4 >>> ((24 : Int32) &&& 31)).toInt8.toInt32 = x ∧ x.toInt8.toInt32 = x := ⟨_, rfl, own_byte _⟩
        rw [hx6]
        show own_Go p e below _ s₁ (mkF m 81 #[iv p0, iv p1, iv p2, iv p3, iv p4, iv p5, iv i, iv bx0, iv bx1, iv bx2, iv bx3, iv bx4, iv bx5, .unset, .unset, .unset, .unset, .unset, .unset] [(.int bx6)])
        refine own_st (fun _ k => XS.istore X0.here hx rfl (hb hby at_81) rfl (l' := #[iv p0, iv p1, iv p2, iv p3, iv p4, iv p5, iv i, iv bx0, iv bx1, iv bx2, iv bx3, iv bx4, iv bx5, iv bx6, .unset, .unset, .unset, .unset, .unset]) rfl k) ?_
        show own_Go p e below _ s₁ (mkF m 83 #[iv p0, iv p1, iv p2, iv p3, iv p4, iv p5, iv i, iv bx0, iv bx1, iv bx2, iv bx3, iv bx4, iv bx5, iv bx6, .unset, .unset, .unset, .unset, .unset] [])
        refine own_st (fun _ k => XS.iload X0.here hx rfl (hb hby at_83) rfl k) ?_
        show own_Go p e below _ s₁ (mkF m 85 #[iv p0, iv p1, iv p2, iv p3, iv p4, iv p5, iv i, iv bx0, iv bx1, iv bx2, iv bx3, iv bx4, iv bx5, iv bx6, .unset, .unset, .unset, .unset, .unset] [(.int i)])
        rcases hc with rfl | rfl | rfl | rfl | rfl | rfl | rfl | rfl
        · show own_Go p e below _ s₁ (mkF m 85 #[iv p0, iv p1, iv p2, iv p3, iv p4, iv p5, iv 0, iv bx0, iv bx1, iv bx2, iv bx3, iv bx4, iv bx5, iv bx6, .unset, .unset, .unset, .unset, .unset] [(.int 0)])
          obtain ⟨T1, h1, k_a1, X1, e1, x1, A1, st1⟩ := newP X0 hx hZ (hw _ (List.mem_of_getElem? (i := 0) rfl)) e0 (g := (mkF m 85 #[iv p0, iv p1, iv p2, iv p3, iv p4, iv p5, iv 0, iv bx0, iv bx1, iv bx2, iv bx3, iv bx4, iv bx5, iv bx6, .unset, .unset, .unset, .unset, .unset] [(.int 0)])) rfl (hb hby at_85) rfl (by decide) (cap := 0) (by decide) (by decide) (by decide) (by decide)
          obtain ⟨a1, g1⟩ : ∃ z, z = h0.size := ⟨_, rfl⟩
          rw [← g1] at A1 st1
          have g_a1 : n0 ≤ a1 := g1 ▸ Z0
          have O1 := O0.ext x1
          have Z1 : n0 ≤ h1.size := Nat.le_trans Z0 x1.1
          clear O0 Z0
          have V1_a1 : Arv Z h1 a1 k_a1 .byte (0 : Int32) [] (.int 0) := (Arv.new A1 (by decide)).pad (pad_rep [] (.int 0) 0)
          clear X0 e0
          refine own_st st1 ?_
          clear st1
          show own_Go p e below _ T1 (mkF m 87 #[iv p0, iv p1, iv p2, iv p3, iv p4, iv p5, iv 0, iv bx0, iv bx1, iv bx2, iv bx3, iv bx4, iv bx5, iv bx6, .unset, .unset, .unset, .unset, .unset] [(.ref a1)])
          refine own_st (fun _ k => XS.astore X1.here hx rfl (hb hby at_87) rfl rfl (l' := #[iv p0, iv p1, iv p2, iv p3, iv p4, iv p5, iv 0, iv bx0, iv bx1, iv bx2, iv bx3, iv bx4, iv bx5, iv bx6, rv a1, .unset, .unset, .unset, .unset]) rfl k) ?_
          show own_Go p e below _ T1 (mkF m 89 #[iv p0, iv p1, iv p2, iv p3, iv p4, iv p5, iv 0, iv bx0, iv bx1, iv bx2, iv bx3, iv bx4, iv bx5, iv bx6, rv a1, .unset, .unset, .unset, .unset] [])
          refine own_st (fun _ k => XS.iload X1.here hx rfl (hb hby at_89) rfl k) ?_
          show own_Go p e below _ T1 (mkF m 91 #[iv p0, iv p1, iv p2, iv p3, iv p4, iv p5, iv 0, iv bx0, iv bx1, iv bx2, iv bx3, iv bx4, iv bx5, iv bx6, rv a1, .unset, .unset, .unset, .unset] [(.int 0)])
          refine own_st (fun _ k => XS.ifYes X1.here hx rfl (pc0 := 91) (pc' := 100) rfl (hb hby at_91) rfl (XT.i0_le_t (by decide)) (by decide) (by decide) k) ?_
          show own_Go p e below _ T1 (mkF m 100 #[iv p0, iv p1, iv p2, iv p3, iv p4, iv p5, iv 0, iv bx0, iv bx1, iv bx2, iv bx3, iv bx4, iv bx5, iv bx6, rv a1, .unset, .unset, .unset, .unset] [])
          refine own_st (fun _ k => XS.iload X1.here hx rfl (hb hby at_100) rfl k) ?_
          show own_Go p e below _ T1 (mkF m 102 #[iv p0, iv p1, iv p2, iv p3, iv p4, iv p5, iv 0, iv bx0, iv bx1, iv bx2, iv bx3, iv bx4, iv bx5, iv bx6, rv a1, .unset, .unset, .unset, .unset] [(.int 0)])
          refine own_st (fun _ k => XT.iconstV X1.here hx rfl (1 : Int32) (hb hby at_102) (by decide) k) ?_
          show own_Go p e below _ T1 (mkF m 103 #[iv p0, iv p1, iv p2, iv p3, iv p4, iv p5, iv 0, iv bx0, iv bx1, iv bx2, iv bx3, iv bx4, iv bx5, iv bx6, rv a1, .unset, .unset, .unset, .unset] [(.int 1), (.int 0)])
          refine own_st (fun _ k => XS.icmpYes X1.here hx rfl (pc0 := 103) (pc' := 112) rfl (hb hby at_103) rfl (XT.ii_le_t (by decide)) (by decide) (by decide) k) ?_
          show own_Go p e below _ T1 (mkF m 112 #[iv p0, iv p1, iv p2, iv p3, iv p4, iv p5, iv 0, iv bx0, iv bx1, iv bx2, iv bx3, iv bx4, iv bx5, iv bx6, rv a1, .unset, .unset, .unset, .unset] [])
          refine own_st (fun _ k => XS.iload X1.here hx rfl (hb hby at_112) rfl k) ?_
          show own_Go p e below _ T1 (mkF m 114 #[iv p0, iv p1, iv p2, iv p3, iv p4, iv p5, iv 0, iv bx0, iv bx1, iv bx2, iv bx3, iv bx4, iv bx5, iv bx6, rv a1, .unset, .unset, .unset, .unset] [(.int 0)])
          refine own_st (fun _ k => XT.iconstV X1.here hx rfl (2 : Int32) (hb hby at_114) (by decide) k) ?_
          show own_Go p e below _ T1 (mkF m 115 #[iv p0, iv p1, iv p2, iv p3, iv p4, iv p5, iv 0, iv bx0, iv bx1, iv bx2, iv bx3, iv bx4, iv bx5, iv bx6, rv a1, .unset, .unset, .unset, .unset] [(.int 2), (.int 0)])
          refine own_st (fun _ k => XS.icmpYes X1.here hx rfl (pc0 := 115) (pc' := 124) rfl (hb hby at_115) rfl (XT.ii_le_t (by decide)) (by decide) (by decide) k) ?_
          show own_Go p e below _ T1 (mkF m 124 #[iv p0, iv p1, iv p2, iv p3, iv p4, iv p5, iv 0, iv bx0, iv bx1, iv bx2, iv bx3, iv bx4, iv bx5, iv bx6, rv a1, .unset, .unset, .unset, .unset] [])
          refine own_st (fun _ k => XS.iload X1.here hx rfl (hb hby at_124) rfl k) ?_
          show own_Go p e below _ T1 (mkF m 126 #[iv p0, iv p1, iv p2, iv p3, iv p4, iv p5, iv 0, iv bx0, iv bx1, iv bx2, iv bx3, iv bx4, iv bx5, iv bx6, rv a1, .unset, .unset, .unset, .unset] [(.int 0)])
          refine own_st (fun _ k => XT.iconstV X1.here hx rfl (3 : Int32) (hb hby at_126) (by decide) k) ?_
          show own_Go p e below _ T1 (mkF m 127 #[iv p0, iv p1, iv p2, iv p3, iv p4, iv p5, iv 0, iv bx0, iv bx1, iv bx2, iv bx3, iv bx4, iv bx5, iv bx6, rv a1, .unset, .unset, .unset, .unset] [(.int 3), (.int 0)])
          refine own_st (fun _ k => XS.icmpYes X1.here hx rfl (pc0 := 127) (pc' := 136) rfl (hb hby at_127) rfl (XT.ii_le_t (by decide)) (by decide) (by decide) k) ?_
          show own_Go p e below _ T1 (mkF m 136 #[iv p0, iv p1, iv p2, iv p3, iv p4, iv p5, iv 0, iv bx0, iv bx1, iv bx2, iv bx3, iv bx4, iv bx5, iv bx6, rv a1, .unset, .unset, .unset, .unset] [])
          refine own_st (fun _ k => XS.iload X1.here hx rfl (hb hby at_136) rfl k) ?_
          show own_Go p e below _ T1 (mkF m 138 #[iv p0, iv p1, iv p2, iv p3, iv p4, iv p5, iv 0, iv bx0, iv bx1, iv bx2, iv bx3, iv bx4, iv bx5, iv bx6, rv a1, .unset, .unset, .unset, .unset] [(.int 0)])
          refine own_st (fun _ k => XT.iconstV X1.here hx rfl (4 : Int32) (hb hby at_138) (by decide) k) ?_
          show own_Go p e below _ T1 (mkF m 139 #[iv p0, iv p1, iv p2, iv p3, iv p4, iv p5, iv 0, iv bx0, iv bx1, iv bx2, iv bx3, iv bx4, iv bx5, iv bx6, rv a1, .unset, .unset, .unset, .unset] [(.int 4), (.int 0)])
          refine own_st (fun _ k => XS.icmpYes X1.here hx rfl (pc0 := 139) (pc' := 148) rfl (hb hby at_139) rfl (XT.ii_le_t (by decide)) (by decide) (by decide) k) ?_
          show own_Go p e below _ T1 (mkF m 148 #[iv p0, iv p1, iv p2, iv p3, iv p4, iv p5, iv 0, iv bx0, iv bx1, iv bx2, iv bx3, iv bx4, iv bx5, iv bx6, rv a1, .unset, .unset, .unset, .unset] [])
          refine own_st (fun _ k => XS.iload X1.here hx rfl (hb hby at_148) rfl k) ?_
          show own_Go p e below _ T1 (mkF m 150 #[iv p0, iv p1, iv p2, iv p3, iv p4, iv p5, iv 0, iv bx0, iv bx1, iv bx2, iv bx3, iv bx4, iv bx5, iv bx6, rv a1, .unset, .unset, .unset, .unset] [(.int 0)])
          refine own_st (fun _ k => XT.iconstV X1.here hx rfl (5 : Int32) (hb hby at_150) (by decide) k) ?_
          show own_Go p e below _ T1 (mkF m 151 #[iv p0, iv p1, iv p2, iv p3, iv p4, iv p5, iv 0, iv bx0, iv bx1, iv bx2, iv bx3, iv bx4, iv bx5, iv bx6, rv a1, .unset, .unset, .unset, .unset] [(.int 5), (.int 0)])
          refine own_st (fun _ k => XS.icmpYes X1.here hx rfl (pc0 := 151) (pc' := 160) rfl (hb hby at_151) rfl (XT.ii_le_t (by decide)) (by decide) (by decide) k) ?_
          show own_Go p e below _ T1 (mkF m 160 #[iv p0, iv p1, iv p2, iv p3, iv p4, iv p5, iv 0, iv bx0, iv bx1, iv bx2, iv bx3, iv bx4, iv bx5, iv bx6, rv a1, .unset, .unset, .unset, .unset] [])
          refine own_st (fun _ k => XS.iload X1.here hx rfl (hb hby at_160) rfl k) ?_
          show own_Go p e below _ T1 (mkF m 162 #[iv p0, iv p1, iv p2, iv p3, iv p4, iv p5, iv 0, iv bx0, iv bx1, iv bx2, iv bx3, iv bx4, iv bx5, iv bx6, rv a1, .unset, .unset, .unset, .unset] [(.int 0)])
          refine own_st (fun _ k => XT.bipushV X1.here hx rfl (6 : Int32) (hb hby at_162) (by decide) k) ?_
          show own_Go p e below _ T1 (mkF m 164 #[iv p0, iv p1, iv p2, iv p3, iv p4, iv p5, iv 0, iv bx0, iv bx1, iv bx2, iv bx3, iv bx4, iv bx5, iv bx6, rv a1, .unset, .unset, .unset, .unset] [(.int 6), (.int 0)])
          refine own_st (fun _ k => XS.icmpYes X1.here hx rfl (pc0 := 164) (pc' := 174) rfl (hb hby at_164) rfl (XT.ii_le_t (by decide)) (by decide) (by decide) k) ?_
          show own_Go p e below _ T1 (mkF m 174 #[iv p0, iv p1, iv p2, iv p3, iv p4, iv p5, iv 0, iv bx0, iv bx1, iv bx2, iv bx3, iv bx4, iv bx5, iv bx6, rv a1, .unset, .unset, .unset, .unset] [])
          refine own_st (fun _ k => XS.aload X1.here hx rfl (hb hby at_174) rfl rfl k) ?_
          show own_Go p e below _ T1 (mkF m 176 #[iv p0, iv p1, iv p2, iv p3, iv p4, iv p5, iv 0, iv bx0, iv bx1, iv bx2, iv bx3, iv bx4, iv bx5, iv bx6, rv a1, .unset, .unset, .unset, .unset] [(.ref a1)])
          have VBx := VB.ext O1.2
          obtain ⟨_, _, ⟨T2, L2, k2, n2⟩, -, X2, ⟨Lc2, hQ2, l2, y2, z2⟩, st2⟩ := Jvm.LawKit.callS X1 hx (y := (⟨"com/example/broken_to_found/brokentofound/watch/UrlList", "byteOrderMarkLength", "([B)I"⟩ : MethodName)) hown (mvT hZ (hw _ (List.mem_of_getElem? (i := 1) rfl))) (mvT hZ (hw _ (List.mem_of_getElem? (i := 2) rfl))) (mvT hZ (hw _ (List.mem_of_getElem? (i := 3) rfl))) (mvT hZ (hw _ (List.mem_of_getElem? (i := 4) rfl))) (by decide) (backOf (W := 0) (own_rm_bos l Z a0 hw [] a1 k_a1 (0 : Int32) [] w_B kB h1 n0 Z1 V1_a1 VBx (by decide) (S_B.ext O1.2)) hZ (hw _ (List.mem_of_getElem? (i := 4) rfl)) (hw _ (List.mem_of_getElem? (i := 3) rfl)) (by decide) (by decide)) (g := (mkF m 176 #[iv p0, iv p1, iv p2, iv p3, iv p4, iv p5, iv 0, iv bx0, iv bx1, iv bx2, iv bx3, iv bx4, iv bx5, iv bx6, rv a1, .unset, .unset, .unset, .unset] [(.ref a1)])) rfl (by rw [hml]; rfl) (argsL := [(.ref a1)]) (rest := []) (lenOf own_pd3 rfl) rfl (by show 2 * 0 + _ ≤ _; exact Nat.le_of_eq rfl) (hb hby at_176) (fun _ _ => ⟨rfl, e1, (by decide : 1 + 0 ≤ _), (by decide : 0 + 0 ≤ _)⟩)
          dsimp only [Pt.U, Pt.locs, Pt.cells, Pt.slots] at X2 l2 y2 z2 st2 hQ2
          subst l2 y2 z2
          obtain ⟨rfl, N2, eh2⟩ := hQ2
          have M2 := Fr.app N0 N2
          refine own_st st2 ?_
          clear X1 N2 e1 st2
          show own_Go p e below _ T2 (mkF m 179 #[iv p0, iv p1, iv p2, iv p3, iv p4, iv p5, iv 0, iv bx0, iv bx1, iv bx2, iv bx3, iv bx4, iv bx5, iv bx6, rv a1, .unset, .unset, .unset, .unset] [(.int 0)])
          refine own_st (fun _ k => XS.istore X2.here hx rfl (hb hby at_179) rfl (l' := #[iv p0, iv p1, iv p2, iv p3, iv p4, iv p5, iv 0, iv bx0, iv bx1, iv bx2, iv bx3, iv bx4, iv bx5, iv bx6, rv a1, iv 0, .unset, .unset, .unset]) rfl k) ?_
          show own_Go p e below _ T2 (mkF m 181 #[iv p0, iv p1, iv p2, iv p3, iv p4, iv p5, iv 0, iv bx0, iv bx1, iv bx2, iv bx3, iv bx4, iv bx5, iv bx6, rv a1, iv 0, .unset, .unset, .unset] [])
          refine own_st (fun _ k => XS.iload X2.here hx rfl (hb hby at_181) rfl k) ?_
          show own_Go p e below _ T2 (mkF m 183 #[iv p0, iv p1, iv p2, iv p3, iv p4, iv p5, iv 0, iv bx0, iv bx1, iv bx2, iv bx3, iv bx4, iv bx5, iv bx6, rv a1, iv 0, .unset, .unset, .unset] [(.int 0)])
          refine own_st (fun _ k => XT.iconstV X2.here hx rfl (3 : Int32) (hb hby at_183) (by decide) k) ?_
          show own_Go p e below _ T2 (mkF m 184 #[iv p0, iv p1, iv p2, iv p3, iv p4, iv p5, iv 0, iv bx0, iv bx1, iv bx2, iv bx3, iv bx4, iv bx5, iv bx6, rv a1, iv 0, .unset, .unset, .unset] [(.int 3), (.int 0)])
          have KE : ∀ mk ex : Int32, ex = (0 : Int32) → own_Go p e below (own_K s (own_Q_law Z p0 p1 p2 p3 p4 p5 w_B kB h0 n0) 16 128) T2 (mkF m 227 #[iv p0, iv p1, iv p2, iv p3, iv p4, iv p5, iv 0, iv bx0, iv bx1, iv bx2, iv bx3, iv bx4, iv bx5, iv bx6, rv a1, iv 0, iv mk, iv ex, .unset] []) := by
            intro mk ex hex
            show own_Go p e below _ T2 (mkF m 227 #[iv p0, iv p1, iv p2, iv p3, iv p4, iv p5, iv 0, iv bx0, iv bx1, iv bx2, iv bx3, iv bx4, iv bx5, iv bx6, rv a1, iv 0, iv mk, iv ex, .unset] [])
            refine own_st (fun _ k => XS.aload X2.here hx rfl (hb hby at_227) rfl rfl k) ?_
            show own_Go p e below _ T2 (mkF m 229 #[iv p0, iv p1, iv p2, iv p3, iv p4, iv p5, iv 0, iv bx0, iv bx1, iv bx2, iv bx3, iv bx4, iv bx5, iv bx6, rv a1, iv 0, iv mk, iv ex, .unset] [(.ref a1)])
            refine own_st (fun _ k => own_len X2 hx hZ eh2 V1_a1 rfl rfl (hb hby at_229) k) ?_
            show own_Go p e below _ T2 (mkF m 230 #[iv p0, iv p1, iv p2, iv p3, iv p4, iv p5, iv 0, iv bx0, iv bx1, iv bx2, iv bx3, iv bx4, iv bx5, iv bx6, rv a1, iv 0, iv mk, iv ex, .unset] [(.int 0)])
            refine own_st (fun _ k => XS.iload X2.here hx rfl (hb hby at_230) rfl k) ?_
            show own_Go p e below _ T2 (mkF m 232 #[iv p0, iv p1, iv p2, iv p3, iv p4, iv p5, iv 0, iv bx0, iv bx1, iv bx2, iv bx3, iv bx4, iv bx5, iv bx6, rv a1, iv 0, iv mk, iv ex, .unset] [(.int 0), (.int 0)])
            refine own_st (fun _ k => XS.icmpNo X2.here hx rfl (hb hby at_232) rfl (XT.ii_ne_f rfl) k) ?_
            show own_Go p e below _ T2 (mkF m 235 #[iv p0, iv p1, iv p2, iv p3, iv p4, iv p5, iv 0, iv bx0, iv bx1, iv bx2, iv bx3, iv bx4, iv bx5, iv bx6, rv a1, iv 0, iv mk, iv ex, .unset] [])
            refine own_st (fun _ k => XS.iload X2.here hx rfl (hb hby at_235) rfl k) ?_
            show own_Go p e below _ T2 (mkF m 237 #[iv p0, iv p1, iv p2, iv p3, iv p4, iv p5, iv 0, iv bx0, iv bx1, iv bx2, iv bx3, iv bx4, iv bx5, iv bx6, rv a1, iv 0, iv mk, iv ex, .unset] [(.int 0)])
            refine own_st (fun _ k => XS.ifYes X2.here hx rfl (pc0 := 237) (pc' := 249) rfl (hb hby at_237) rfl (XT.i0_le_t (by decide)) (by decide) (by decide) k) ?_
            show own_Go p e below _ T2 (mkF m 249 #[iv p0, iv p1, iv p2, iv p3, iv p4, iv p5, iv 0, iv bx0, iv bx1, iv bx2, iv bx3, iv bx4, iv bx5, iv bx6, rv a1, iv 0, iv mk, iv ex, .unset] [])
            refine own_st (fun _ k => XS.iload X2.here hx rfl (hb hby at_249) rfl k) ?_
            show own_Go p e below _ T2 (mkF m 251 #[iv p0, iv p1, iv p2, iv p3, iv p4, iv p5, iv 0, iv bx0, iv bx1, iv bx2, iv bx3, iv bx4, iv bx5, iv bx6, rv a1, iv 0, iv mk, iv ex, .unset] [(.int 0)])
            refine own_st (fun _ k => XT.iconstV X2.here hx rfl (1 : Int32) (hb hby at_251) (by decide) k) ?_
            show own_Go p e below _ T2 (mkF m 252 #[iv p0, iv p1, iv p2, iv p3, iv p4, iv p5, iv 0, iv bx0, iv bx1, iv bx2, iv bx3, iv bx4, iv bx5, iv bx6, rv a1, iv 0, iv mk, iv ex, .unset] [(.int 1), (.int 0)])
            refine own_st (fun _ k => XS.icmpYes X2.here hx rfl (pc0 := 252) (pc' := 264) rfl (hb hby at_252) rfl (XT.ii_le_t (by decide)) (by decide) (by decide) k) ?_
            show own_Go p e below _ T2 (mkF m 264 #[iv p0, iv p1, iv p2, iv p3, iv p4, iv p5, iv 0, iv bx0, iv bx1, iv bx2, iv bx3, iv bx4, iv bx5, iv bx6, rv a1, iv 0, iv mk, iv ex, .unset] [])
            refine own_st (fun _ k => XS.iload X2.here hx rfl (hb hby at_264) rfl k) ?_
            show own_Go p e below _ T2 (mkF m 266 #[iv p0, iv p1, iv p2, iv p3, iv p4, iv p5, iv 0, iv bx0, iv bx1, iv bx2, iv bx3, iv bx4, iv bx5, iv bx6, rv a1, iv 0, iv mk, iv ex, .unset] [(.int 0)])
            refine own_st (fun _ k => XT.iconstV X2.here hx rfl (2 : Int32) (hb hby at_266) (by decide) k) ?_
            show own_Go p e below _ T2 (mkF m 267 #[iv p0, iv p1, iv p2, iv p3, iv p4, iv p5, iv 0, iv bx0, iv bx1, iv bx2, iv bx3, iv bx4, iv bx5, iv bx6, rv a1, iv 0, iv mk, iv ex, .unset] [(.int 2), (.int 0)])
            refine own_st (fun _ k => XS.icmpYes X2.here hx rfl (pc0 := 267) (pc' := 279) rfl (hb hby at_267) rfl (XT.ii_le_t (by decide)) (by decide) (by decide) k) ?_
            show own_Go p e below _ T2 (mkF m 279 #[iv p0, iv p1, iv p2, iv p3, iv p4, iv p5, iv 0, iv bx0, iv bx1, iv bx2, iv bx3, iv bx4, iv bx5, iv bx6, rv a1, iv 0, iv mk, iv ex, .unset] [])
            refine own_st (fun _ k => XS.iload X2.here hx rfl (hb hby at_279) rfl k) ?_
            show own_Go p e below _ T2 (mkF m 281 #[iv p0, iv p1, iv p2, iv p3, iv p4, iv p5, iv 0, iv bx0, iv bx1, iv bx2, iv bx3, iv bx4, iv bx5, iv bx6, rv a1, iv 0, iv mk, iv ex, .unset] [(.int 0)])
            refine own_st (fun _ k => XT.iconstV X2.here hx rfl (3 : Int32) (hb hby at_281) (by decide) k) ?_
            show own_Go p e below _ T2 (mkF m 282 #[iv p0, iv p1, iv p2, iv p3, iv p4, iv p5, iv 0, iv bx0, iv bx1, iv bx2, iv bx3, iv bx4, iv bx5, iv bx6, rv a1, iv 0, iv mk, iv ex, .unset] [(.int 3), (.int 0)])
            refine own_st (fun _ k => XS.icmpYes X2.here hx rfl (pc0 := 282) (pc' := 294) rfl (hb hby at_282) rfl (XT.ii_le_t (by decide)) (by decide) (by decide) k) ?_
            show own_Go p e below _ T2 (mkF m 294 #[iv p0, iv p1, iv p2, iv p3, iv p4, iv p5, iv 0, iv bx0, iv bx1, iv bx2, iv bx3, iv bx4, iv bx5, iv bx6, rv a1, iv 0, iv mk, iv ex, .unset] [])
            refine own_st (fun _ k => XT.iconstV X2.here hx rfl (1 : Int32) (hb hby at_294) (by decide) k) ?_
            show own_Go p e below _ T2 (mkF m 295 #[iv p0, iv p1, iv p2, iv p3, iv p4, iv p5, iv 0, iv bx0, iv bx1, iv bx2, iv bx3, iv bx4, iv bx5, iv bx6, rv a1, iv 0, iv mk, iv ex, .unset] [(.int 1)])
            refine own_st (fun _ k => XS.goto X2.here hx rfl (pc0 := 295) (pc' := 299) rfl (hb hby at_295) (by decide) (by decide) k) ?_
            show own_Go p e below _ T2 (mkF m 299 #[iv p0, iv p1, iv p2, iv p3, iv p4, iv p5, iv 0, iv bx0, iv bx1, iv bx2, iv bx3, iv bx4, iv bx5, iv bx6, rv a1, iv 0, iv mk, iv ex, .unset] [(.int 1)])
            refine own_st (fun _ k => XS.istore X2.here hx rfl (hb hby at_299) rfl (l' := #[iv p0, iv p1, iv p2, iv p3, iv p4, iv p5, iv 0, iv bx0, iv bx1, iv bx2, iv bx3, iv bx4, iv bx5, iv bx6, rv a1, iv 0, iv mk, iv ex, iv 1]) rfl k) ?_
            show own_Go p e below _ T2 (mkF m 301 #[iv p0, iv p1, iv p2, iv p3, iv p4, iv p5, iv 0, iv bx0, iv bx1, iv bx2, iv bx3, iv bx4, iv bx5, iv bx6, rv a1, iv 0, iv mk, iv ex, iv 1] [])
            refine own_st (fun _ k => XS.iload X2.here hx rfl (hb hby at_301) rfl k) ?_
            show own_Go p e below _ T2 (mkF m 303 #[iv p0, iv p1, iv p2, iv p3, iv p4, iv p5, iv 0, iv bx0, iv bx1, iv bx2, iv bx3, iv bx4, iv bx5, iv bx6, rv a1, iv 0, iv mk, iv ex, iv 1] [(.int 0)])
            refine own_st (fun _ k => XS.iload X2.here hx rfl (hb hby at_303) rfl k) ?_
            show own_Go p e below _ T2 (mkF m 305 #[iv p0, iv p1, iv p2, iv p3, iv p4, iv p5, iv 0, iv bx0, iv bx1, iv bx2, iv bx3, iv bx4, iv bx5, iv bx6, rv a1, iv 0, iv mk, iv ex, iv 1] [(.int ex), (.int 0)])
            refine own_st (fun _ k => XS.icmpNo X2.here hx rfl (hb hby at_305) rfl (XT.ii_ne_f hex.symm) k) ?_
            show own_Go p e below _ T2 (mkF m 308 #[iv p0, iv p1, iv p2, iv p3, iv p4, iv p5, iv 0, iv bx0, iv bx1, iv bx2, iv bx3, iv bx4, iv bx5, iv bx6, rv a1, iv 0, iv mk, iv ex, iv 1] [])
            refine own_st (fun _ k => XS.iload X2.here hx rfl (hb hby at_308) rfl k) ?_
            show own_Go p e below _ T2 (mkF m 310 #[iv p0, iv p1, iv p2, iv p3, iv p4, iv p5, iv 0, iv bx0, iv bx1, iv bx2, iv bx3, iv bx4, iv bx5, iv bx6, rv a1, iv 0, iv mk, iv ex, iv 1] [(.int 1)])
            refine own_st (fun _ k => XS.ifNo X2.here hx rfl (hb hby at_310) rfl (XT.i0_eq_f (by decide)) k) ?_
            show own_Go p e below _ T2 (mkF m 313 #[iv p0, iv p1, iv p2, iv p3, iv p4, iv p5, iv 0, iv bx0, iv bx1, iv bx2, iv bx3, iv bx4, iv bx5, iv bx6, rv a1, iv 0, iv mk, iv ex, iv 1] [])
            refine own_st (fun _ k => XT.iconstV X2.here hx rfl (1 : Int32) (hb hby at_313) (by decide) k) ?_
            show own_Go p e below _ T2 (mkF m 314 #[iv p0, iv p1, iv p2, iv p3, iv p4, iv p5, iv 0, iv bx0, iv bx1, iv bx2, iv bx3, iv bx4, iv bx5, iv bx6, rv a1, iv 0, iv mk, iv ex, iv 1] [(.int 1)])
            refine own_st (fun _ k => XS.goto X2.here hx rfl (pc0 := 314) (pc' := 318) rfl (hb hby at_314) (by decide) (by decide) k) ?_
            show own_Go p e below _ T2 (mkF m 318 #[iv p0, iv p1, iv p2, iv p3, iv p4, iv p5, iv 0, iv bx0, iv bx1, iv bx2, iv bx3, iv bx4, iv bx5, iv bx6, rv a1, iv 0, iv mk, iv ex, iv 1] [(.int 1)])
            refine own_retN X2 hx Bd.notSynchronized (t := .boolean) Bd.returns (by simp) (hb hby at_318) (by decide) (by decide) ?_
            rw [eh2]
            exact ⟨rfl, M2⟩
          refine own_st (fun _ k => XS.icmpYes X2.here hx rfl (pc0 := 184) (pc' := 212) rfl (hb hby at_184) rfl (XT.ii_lt_t (by decide)) (by decide) (by decide) k) ?_
          show own_Go p e below _ T2 (mkF m 212 #[iv p0, iv p1, iv p2, iv p3, iv p4, iv p5, iv 0, iv bx0, iv bx1, iv bx2, iv bx3, iv bx4, iv bx5, iv bx6, rv a1, iv 0, .unset, .unset, .unset] [])
          refine own_st (fun _ k => XT.iconstV X2.here hx rfl (0 : Int32) (hb hby at_212) (by decide) k) ?_
          show own_Go p e below _ T2 (mkF m 213 #[iv p0, iv p1, iv p2, iv p3, iv p4, iv p5, iv 0, iv bx0, iv bx1, iv bx2, iv bx3, iv bx4, iv bx5, iv bx6, rv a1, iv 0, .unset, .unset, .unset] [(.int 0)])
          refine own_st (fun _ k => XS.istore X2.here hx rfl (hb hby at_213) rfl (l' := #[iv p0, iv p1, iv p2, iv p3, iv p4, iv p5, iv 0, iv bx0, iv bx1, iv bx2, iv bx3, iv bx4, iv bx5, iv bx6, rv a1, iv 0, iv 0, .unset, .unset]) rfl k) ?_
          show own_Go p e below _ T2 (mkF m 215 #[iv p0, iv p1, iv p2, iv p3, iv p4, iv p5, iv 0, iv bx0, iv bx1, iv bx2, iv bx3, iv bx4, iv bx5, iv bx6, rv a1, iv 0, iv 0, .unset, .unset] [])
          refine own_st (fun _ k => XS.iload X2.here hx rfl (hb hby at_215) rfl k) ?_
          show own_Go p e below _ T2 (mkF m 217 #[iv p0, iv p1, iv p2, iv p3, iv p4, iv p5, iv 0, iv bx0, iv bx1, iv bx2, iv bx3, iv bx4, iv bx5, iv bx6, rv a1, iv 0, iv 0, .unset, .unset] [(.int 0)])
          refine own_st (fun _ k => XS.ifYes X2.here hx rfl (pc0 := 217) (pc' := 224) rfl (hb hby at_217) rfl (XT.i0_eq_t (by decide)) (by decide) (by decide) k) ?_
          show own_Go p e below _ T2 (mkF m 224 #[iv p0, iv p1, iv p2, iv p3, iv p4, iv p5, iv 0, iv bx0, iv bx1, iv bx2, iv bx3, iv bx4, iv bx5, iv bx6, rv a1, iv 0, iv 0, .unset, .unset] [])
          refine own_st (fun _ k => XT.iconstV X2.here hx rfl (0 : Int32) (hb hby at_224) (by decide) k) ?_
          show own_Go p e below _ T2 (mkF m 225 #[iv p0, iv p1, iv p2, iv p3, iv p4, iv p5, iv 0, iv bx0, iv bx1, iv bx2, iv bx3, iv bx4, iv bx5, iv bx6, rv a1, iv 0, iv 0, .unset, .unset] [(.int 0)])
          refine own_st (fun _ k => XS.istore X2.here hx rfl (hb hby at_225) rfl (l' := #[iv p0, iv p1, iv p2, iv p3, iv p4, iv p5, iv 0, iv bx0, iv bx1, iv bx2, iv bx3, iv bx4, iv bx5, iv bx6, rv a1, iv 0, iv 0, iv 0, .unset]) rfl k) ?_
          show own_Go p e below _ T2 (mkF m 227 #[iv p0, iv p1, iv p2, iv p3, iv p4, iv p5, iv 0, iv bx0, iv bx1, iv bx2, iv bx3, iv bx4, iv bx5, iv bx6, rv a1, iv 0, iv 0, iv 0, .unset] [])
          exact KE _ _ rfl
        · show own_Go p e below _ s₁ (mkF m 85 #[iv p0, iv p1, iv p2, iv p3, iv p4, iv p5, iv 1, iv bx0, iv bx1, iv bx2, iv bx3, iv bx4, iv bx5, iv bx6, .unset, .unset, .unset, .unset, .unset] [(.int 1)])
          obtain ⟨T4, h4, k_a1, X4, e4, x4, A4, st4⟩ := newP X0 hx hZ (hw _ (List.mem_of_getElem? (i := 0) rfl)) e0 (g := (mkF m 85 #[iv p0, iv p1, iv p2, iv p3, iv p4, iv p5, iv 1, iv bx0, iv bx1, iv bx2, iv bx3, iv bx4, iv bx5, iv bx6, .unset, .unset, .unset, .unset, .unset] [(.int 1)])) rfl (hb hby at_85) rfl (by decide) (cap := 1) (by decide) (by decide) (by decide) (by decide)
          obtain ⟨a1, g4⟩ : ∃ z, z = h0.size := ⟨_, rfl⟩
          rw [← g4] at A4 st4
          have g_a1 : n0 ≤ a1 := g4 ▸ Z0
          have O4 := O0.ext x4
          have Z4 : n0 ≤ h4.size := Nat.le_trans Z0 x4.1
          clear O0 Z0
          have V4_a1 : Arv Z h4 a1 k_a1 .byte (1 : Int32) [(.int 0)] (.int 0) := (Arv.new A4 (by decide)).pad (pad_rep [] (.int 0) 1)
          clear X0 e0
          refine own_st st4 ?_
          clear st4
          show own_Go p e below _ T4 (mkF m 87 #[iv p0, iv p1, iv p2, iv p3, iv p4, iv p5, iv 1, iv bx0, iv bx1, iv bx2, iv bx3, iv bx4, iv bx5, iv bx6, .unset, .unset, .unset, .unset, .unset] [(.ref a1)])
          refine own_st (fun _ k => XS.astore X4.here hx rfl (hb hby at_87) rfl rfl (l' := #[iv p0, iv p1, iv p2, iv p3, iv p4, iv p5, iv 1, iv bx0, iv bx1, iv bx2, iv bx3, iv bx4, iv bx5, iv bx6, rv a1, .unset, .unset, .unset, .unset]) rfl k) ?_
          show own_Go p e below _ T4 (mkF m 89 #[iv p0, iv p1, iv p2, iv p3, iv p4, iv p5, iv 1, iv bx0, iv bx1, iv bx2, iv bx3, iv bx4, iv bx5, iv bx6, rv a1, .unset, .unset, .unset, .unset] [])
          refine own_st (fun _ k => XS.iload X4.here hx rfl (hb hby at_89) rfl k) ?_
          show own_Go p e below _ T4 (mkF m 91 #[iv p0, iv p1, iv p2, iv p3, iv p4, iv p5, iv 1, iv bx0, iv bx1, iv bx2, iv bx3, iv bx4, iv bx5, iv bx6, rv a1, .unset, .unset, .unset, .unset] [(.int 1)])
          refine own_st (fun _ k => XS.ifNo X4.here hx rfl (hb hby at_91) rfl (XT.i0_le_f (by decide)) k) ?_
          show own_Go p e below _ T4 (mkF m 94 #[iv p0, iv p1, iv p2, iv p3, iv p4, iv p5, iv 1, iv bx0, iv bx1, iv bx2, iv bx3, iv bx4, iv bx5, iv bx6, rv a1, .unset, .unset, .unset, .unset] [])
          refine own_st (fun _ k => XS.aload X4.here hx rfl (hb hby at_94) rfl rfl k) ?_
          show own_Go p e below _ T4 (mkF m 96 #[iv p0, iv p1, iv p2, iv p3, iv p4, iv p5, iv 1, iv bx0, iv bx1, iv bx2, iv bx3, iv bx4, iv bx5, iv bx6, rv a1, .unset, .unset, .unset, .unset] [(.ref a1)])
          refine own_st (fun _ k => XT.iconstV X4.here hx rfl (0 : Int32) (hb hby at_96) (by decide) k) ?_
          show own_Go p e below _ T4 (mkF m 97 #[iv p0, iv p1, iv p2, iv p3, iv p4, iv p5, iv 1, iv bx0, iv bx1, iv bx2, iv bx3, iv bx4, iv bx5, iv bx6, rv a1, .unset, .unset, .unset, .unset] [(.int 0), (.ref a1)])
          refine own_st (fun _ k => XS.iload X4.here hx rfl (hb hby at_97) rfl k) ?_
          show own_Go p e below _ T4 (mkF m 99 #[iv p0, iv p1, iv p2, iv p3, iv p4, iv p5, iv 1, iv bx0, iv bx1, iv bx2, iv bx3, iv bx4, iv bx5, iv bx6, rv a1, .unset, .unset, .unset, .unset] [(.int bx0), (.int 0), (.ref a1)])
          obtain ⟨T5, h5, X5, e5, W5, V5, st5⟩ := own_stB X4 hx hZ e4 V4_a1 (j := (0 : Int32)) ⟨by decide, by decide⟩ 0 rfl (Nat.le_of_ble_eq_true rfl) (g := (mkF m 99 #[iv p0, iv p1, iv p2, iv p3, iv p4, iv p5, iv 1, iv bx0, iv bx1, iv bx2, iv bx3, iv bx4, iv bx5, iv bx6, rv a1, .unset, .unset, .unset, .unset] [(.int bx0), (.int 0), (.ref a1)])) rfl rfl (hb hby at_99)
          have V5_a1 : Arv Z h5 a1 k_a1 .byte (1 : Int32) [(.int bx0.toInt8.toInt32)] (.int 0) := V5
          have O5 := O4.wr W5 g_a1
          have Z5 : n0 ≤ h5.size := by rw [W5.size]; exact Z4
          clear O4 Z4 V4_a1 W5
          have N5 := Fr.snoc X5 N0 g_a1
          clear X4 e4
          refine own_st st5 ?_
          clear st5
          show own_Go p e below _ T5 (mkF m 100 #[iv p0, iv p1, iv p2, iv p3, iv p4, iv p5, iv 1, iv bx0, iv bx1, iv bx2, iv bx3, iv bx4, iv bx5, iv bx6, rv a1, .unset, .unset, .unset, .unset] [])
          refine own_st (fun _ k => XS.iload X5.here hx rfl (hb hby at_100) rfl k) ?_
          show own_Go p e below _ T5 (mkF m 102 #[iv p0, iv p1, iv p2, iv p3, iv p4, iv p5, iv 1, iv bx0, iv bx1, iv bx2, iv bx3, iv bx4, iv bx5, iv bx6, rv a1, .unset, .unset, .unset, .unset] [(.int 1)])
          refine own_st (fun _ k => XT.iconstV X5.here hx rfl (1 : Int32) (hb hby at_102) (by decide) k) ?_
          show own_Go p e below _ T5 (mkF m 103 #[iv p0, iv p1, iv p2, iv p3, iv p4, iv p5, iv 1, iv bx0, iv bx1, iv bx2, iv bx3, iv bx4, iv bx5, iv bx6, rv a1, .unset, .unset, .unset, .unset] [(.int 1), (.int 1)])
          refine own_st (fun _ k => XS.icmpYes X5.here hx rfl (pc0 := 103) (pc' := 112) rfl (hb hby at_103) rfl (XT.ii_le_t (by decide)) (by decide) (by decide) k) ?_
          show own_Go p e below _ T5 (mkF m 112 #[iv p0, iv p1, iv p2, iv p3, iv p4, iv p5, iv 1, iv bx0, iv bx1, iv bx2, iv bx3, iv bx4, iv bx5, iv bx6, rv a1, .unset, .unset, .unset, .unset] [])
          refine own_st (fun _ k => XS.iload X5.here hx rfl (hb hby at_112) rfl k) ?_
          show own_Go p e below _ T5 (mkF m 114 #[iv p0, iv p1, iv p2, iv p3, iv p4, iv p5, iv 1, iv bx0, iv bx1, iv bx2, iv bx3, iv bx4, iv bx5, iv bx6, rv a1, .unset, .unset, .unset, .unset] [(.int 1)])
          refine own_st (fun _ k => XT.iconstV X5.here hx rfl (2 : Int32) (hb hby at_114) (by decide) k) ?_
          show own_Go p e below _ T5 (mkF m 115 #[iv p0, iv p1, iv p2, iv p3, iv p4, iv p5, iv 1, iv bx0, iv bx1, iv bx2, iv bx3, iv bx4, iv bx5, iv bx6, rv a1, .unset, .unset, .unset, .unset] [(.int 2), (.int 1)])
          refine own_st (fun _ k => XS.icmpYes X5.here hx rfl (pc0 := 115) (pc' := 124) rfl (hb hby at_115) rfl (XT.ii_le_t (by decide)) (by decide) (by decide) k) ?_
          show own_Go p e below _ T5 (mkF m 124 #[iv p0, iv p1, iv p2, iv p3, iv p4, iv p5, iv 1, iv bx0, iv bx1, iv bx2, iv bx3, iv bx4, iv bx5, iv bx6, rv a1, .unset, .unset, .unset, .unset] [])
          refine own_st (fun _ k => XS.iload X5.here hx rfl (hb hby at_124) rfl k) ?_
          show own_Go p e below _ T5 (mkF m 126 #[iv p0, iv p1, iv p2, iv p3, iv p4, iv p5, iv 1, iv bx0, iv bx1, iv bx2, iv bx3, iv bx4, iv bx5, iv bx6, rv a1, .unset, .unset, .unset, .unset] [(.int 1)])
          refine own_st (fun _ k => XT.iconstV X5.here hx rfl (3 : Int32) (hb hby at_126) (by decide) k) ?_
          show own_Go p e below _ T5 (mkF m 127 #[iv p0, iv p1, iv p2, iv p3, iv p4, iv p5, iv 1, iv bx0, iv bx1, iv bx2, iv bx3, iv bx4, iv bx5, iv bx6, rv a1, .unset, .unset, .unset, .unset] [(.int 3), (.int 1)])
          refine own_st (fun _ k => XS.icmpYes X5.here hx rfl (pc0 := 127) (pc' := 136) rfl (hb hby at_127) rfl (XT.ii_le_t (by decide)) (by decide) (by decide) k) ?_
          show own_Go p e below _ T5 (mkF m 136 #[iv p0, iv p1, iv p2, iv p3, iv p4, iv p5, iv 1, iv bx0, iv bx1, iv bx2, iv bx3, iv bx4, iv bx5, iv bx6, rv a1, .unset, .unset, .unset, .unset] [])
          refine own_st (fun _ k => XS.iload X5.here hx rfl (hb hby at_136) rfl k) ?_
          show own_Go p e below _ T5 (mkF m 138 #[iv p0, iv p1, iv p2, iv p3, iv p4, iv p5, iv 1, iv bx0, iv bx1, iv bx2, iv bx3, iv bx4, iv bx5, iv bx6, rv a1, .unset, .unset, .unset, .unset] [(.int 1)])
          refine own_st (fun _ k => XT.iconstV X5.here hx rfl (4 : Int32) (hb hby at_138) (by decide) k) ?_
          show own_Go p e below _ T5 (mkF m 139 #[iv p0, iv p1, iv p2, iv p3, iv p4, iv p5, iv 1, iv bx0, iv bx1, iv bx2, iv bx3, iv bx4, iv bx5, iv bx6, rv a1, .unset, .unset, .unset, .unset] [(.int 4), (.int 1)])
          refine own_st (fun _ k => XS.icmpYes X5.here hx rfl (pc0 := 139) (pc' := 148) rfl (hb hby at_139) rfl (XT.ii_le_t (by decide)) (by decide) (by decide) k) ?_
          show own_Go p e below _ T5 (mkF m 148 #[iv p0, iv p1, iv p2, iv p3, iv p4, iv p5, iv 1, iv bx0, iv bx1, iv bx2, iv bx3, iv bx4, iv bx5, iv bx6, rv a1, .unset, .unset, .unset, .unset] [])
          refine own_st (fun _ k => XS.iload X5.here hx rfl (hb hby at_148) rfl k) ?_
          show own_Go p e below _ T5 (mkF m 150 #[iv p0, iv p1, iv p2, iv p3, iv p4, iv p5, iv 1, iv bx0, iv bx1, iv bx2, iv bx3, iv bx4, iv bx5, iv bx6, rv a1, .unset, .unset, .unset, .unset] [(.int 1)])
          refine own_st (fun _ k => XT.iconstV X5.here hx rfl (5 : Int32) (hb hby at_150) (by decide) k) ?_
          show own_Go p e below _ T5 (mkF m 151 #[iv p0, iv p1, iv p2, iv p3, iv p4, iv p5, iv 1, iv bx0, iv bx1, iv bx2, iv bx3, iv bx4, iv bx5, iv bx6, rv a1, .unset, .unset, .unset, .unset] [(.int 5), (.int 1)])
          refine own_st (fun _ k => XS.icmpYes X5.here hx rfl (pc0 := 151) (pc' := 160) rfl (hb hby at_151) rfl (XT.ii_le_t (by decide)) (by decide) (by decide) k) ?_
          show own_Go p e below _ T5 (mkF m 160 #[iv p0, iv p1, iv p2, iv p3, iv p4, iv p5, iv 1, iv bx0, iv bx1, iv bx2, iv bx3, iv bx4, iv bx5, iv bx6, rv a1, .unset, .unset, .unset, .unset] [])
          refine own_st (fun _ k => XS.iload X5.here hx rfl (hb hby at_160) rfl k) ?_
          show own_Go p e below _ T5 (mkF m 162 #[iv p0, iv p1, iv p2, iv p3, iv p4, iv p5, iv 1, iv bx0, iv bx1, iv bx2, iv bx3, iv bx4, iv bx5, iv bx6, rv a1, .unset, .unset, .unset, .unset] [(.int 1)])
          refine own_st (fun _ k => XT.bipushV X5.here hx rfl (6 : Int32) (hb hby at_162) (by decide) k) ?_
          show own_Go p e below _ T5 (mkF m 164 #[iv p0, iv p1, iv p2, iv p3, iv p4, iv p5, iv 1, iv bx0, iv bx1, iv bx2, iv bx3, iv bx4, iv bx5, iv bx6, rv a1, .unset, .unset, .unset, .unset] [(.int 6), (.int 1)])
          refine own_st (fun _ k => XS.icmpYes X5.here hx rfl (pc0 := 164) (pc' := 174) rfl (hb hby at_164) rfl (XT.ii_le_t (by decide)) (by decide) (by decide) k) ?_
          show own_Go p e below _ T5 (mkF m 174 #[iv p0, iv p1, iv p2, iv p3, iv p4, iv p5, iv 1, iv bx0, iv bx1, iv bx2, iv bx3, iv bx4, iv bx5, iv bx6, rv a1, .unset, .unset, .unset, .unset] [])
          refine own_st (fun _ k => XS.aload X5.here hx rfl (hb hby at_174) rfl rfl k) ?_
          show own_Go p e below _ T5 (mkF m 176 #[iv p0, iv p1, iv p2, iv p3, iv p4, iv p5, iv 1, iv bx0, iv bx1, iv bx2, iv bx3, iv bx4, iv bx5, iv bx6, rv a1, .unset, .unset, .unset, .unset] [(.ref a1)])
          have VBx := VB.ext O5.2
          obtain ⟨_, _, ⟨T6, L6, k6, n6⟩, -, X6, ⟨Lc6, hQ6, l6, y6, z6⟩, st6⟩ := Jvm.LawKit.callS X5 hx (y := (⟨"com/example/broken_to_found/brokentofound/watch/UrlList", "byteOrderMarkLength", "([B)I"⟩ : MethodName)) hown (mvT hZ (hw _ (List.mem_of_getElem? (i := 1) rfl))) (mvT hZ (hw _ (List.mem_of_getElem? (i := 2) rfl))) (mvT hZ (hw _ (List.mem_of_getElem? (i := 3) rfl))) (mvT hZ (hw _ (List.mem_of_getElem? (i := 4) rfl))) (by decide) (backOf (W := 0) (own_rm_bos l Z a0 hw [] a1 k_a1 (1 : Int32) [(.int bx0.toInt8.toInt32)] w_B kB h5 n0 Z5 V5_a1 VBx (by decide) (S_B.ext O5.2)) hZ (hw _ (List.mem_of_getElem? (i := 4) rfl)) (hw _ (List.mem_of_getElem? (i := 3) rfl)) (by decide) (by decide)) (g := (mkF m 176 #[iv p0, iv p1, iv p2, iv p3, iv p4, iv p5, iv 1, iv bx0, iv bx1, iv bx2, iv bx3, iv bx4, iv bx5, iv bx6, rv a1, .unset, .unset, .unset, .unset] [(.ref a1)])) rfl (by rw [hml]; rfl) (argsL := [(.ref a1)]) (rest := []) (lenOf own_pd3 rfl) rfl (by show 2 * 0 + _ ≤ _; exact Nat.le_of_eq rfl) (hb hby at_176) (fun _ _ => ⟨rfl, e5, (by decide : 1 + 0 ≤ _), (by decide : 1 + 0 ≤ _)⟩)
          dsimp only [Pt.U, Pt.locs, Pt.cells, Pt.slots] at X6 l6 y6 z6 st6 hQ6
          subst l6 y6 z6
          obtain ⟨rfl, N6, eh6⟩ := hQ6
          have M6 := Fr.app N5 N6
          refine own_st st6 ?_
          clear N5 X5 N6 e5 st6
          show own_Go p e below _ T6 (mkF m 179 #[iv p0, iv p1, iv p2, iv p3, iv p4, iv p5, iv 1, iv bx0, iv bx1, iv bx2, iv bx3, iv bx4, iv bx5, iv bx6, rv a1, .unset, .unset, .unset, .unset] [(.int 0)])
          refine own_st (fun _ k => XS.istore X6.here hx rfl (hb hby at_179) rfl (l' := #[iv p0, iv p1, iv p2, iv p3, iv p4, iv p5, iv 1, iv bx0, iv bx1, iv bx2, iv bx3, iv bx4, iv bx5, iv bx6, rv a1, iv 0, .unset, .unset, .unset]) rfl k) ?_
          show own_Go p e below _ T6 (mkF m 181 #[iv p0, iv p1, iv p2, iv p3, iv p4, iv p5, iv 1, iv bx0, iv bx1, iv bx2, iv bx3, iv bx4, iv bx5, iv bx6, rv a1, iv 0, .unset, .unset, .unset] [])
          refine own_st (fun _ k => XS.iload X6.here hx rfl (hb hby at_181) rfl k) ?_
          show own_Go p e below _ T6 (mkF m 183 #[iv p0, iv p1, iv p2, iv p3, iv p4, iv p5, iv 1, iv bx0, iv bx1, iv bx2, iv bx3, iv bx4, iv bx5, iv bx6, rv a1, iv 0, .unset, .unset, .unset] [(.int 1)])
          refine own_st (fun _ k => XT.iconstV X6.here hx rfl (3 : Int32) (hb hby at_183) (by decide) k) ?_
          show own_Go p e below _ T6 (mkF m 184 #[iv p0, iv p1, iv p2, iv p3, iv p4, iv p5, iv 1, iv bx0, iv bx1, iv bx2, iv bx3, iv bx4, iv bx5, iv bx6, rv a1, iv 0, .unset, .unset, .unset] [(.int 3), (.int 1)])
          have KE : ∀ mk ex : Int32, ex = (0 : Int32) → own_Go p e below (own_K s (own_Q_law Z p0 p1 p2 p3 p4 p5 w_B kB h0 n0) 16 128) T6 (mkF m 227 #[iv p0, iv p1, iv p2, iv p3, iv p4, iv p5, iv 1, iv bx0, iv bx1, iv bx2, iv bx3, iv bx4, iv bx5, iv bx6, rv a1, iv 0, iv mk, iv ex, .unset] []) := by
            intro mk ex hex
            show own_Go p e below _ T6 (mkF m 227 #[iv p0, iv p1, iv p2, iv p3, iv p4, iv p5, iv 1, iv bx0, iv bx1, iv bx2, iv bx3, iv bx4, iv bx5, iv bx6, rv a1, iv 0, iv mk, iv ex, .unset] [])
            refine own_st (fun _ k => XS.aload X6.here hx rfl (hb hby at_227) rfl rfl k) ?_
            show own_Go p e below _ T6 (mkF m 229 #[iv p0, iv p1, iv p2, iv p3, iv p4, iv p5, iv 1, iv bx0, iv bx1, iv bx2, iv bx3, iv bx4, iv bx5, iv bx6, rv a1, iv 0, iv mk, iv ex, .unset] [(.ref a1)])
            refine own_st (fun _ k => own_len X6 hx hZ eh6 V5_a1 rfl rfl (hb hby at_229) k) ?_
            show own_Go p e below _ T6 (mkF m 230 #[iv p0, iv p1, iv p2, iv p3, iv p4, iv p5, iv 1, iv bx0, iv bx1, iv bx2, iv bx3, iv bx4, iv bx5, iv bx6, rv a1, iv 0, iv mk, iv ex, .unset] [(.int 1)])
            refine own_st (fun _ k => XS.iload X6.here hx rfl (hb hby at_230) rfl k) ?_
            show own_Go p e below _ T6 (mkF m 232 #[iv p0, iv p1, iv p2, iv p3, iv p4, iv p5, iv 1, iv bx0, iv bx1, iv bx2, iv bx3, iv bx4, iv bx5, iv bx6, rv a1, iv 0, iv mk, iv ex, .unset] [(.int 1), (.int 1)])
            refine own_st (fun _ k => XS.icmpNo X6.here hx rfl (hb hby at_232) rfl (XT.ii_ne_f rfl) k) ?_
            show own_Go p e below _ T6 (mkF m 235 #[iv p0, iv p1, iv p2, iv p3, iv p4, iv p5, iv 1, iv bx0, iv bx1, iv bx2, iv bx3, iv bx4, iv bx5, iv bx6, rv a1, iv 0, iv mk, iv ex, .unset] [])
            refine own_st (fun _ k => XS.iload X6.here hx rfl (hb hby at_235) rfl k) ?_
            show own_Go p e below _ T6 (mkF m 237 #[iv p0, iv p1, iv p2, iv p3, iv p4, iv p5, iv 1, iv bx0, iv bx1, iv bx2, iv bx3, iv bx4, iv bx5, iv bx6, rv a1, iv 0, iv mk, iv ex, .unset] [(.int 1)])
            refine own_st (fun _ k => XS.ifNo X6.here hx rfl (hb hby at_237) rfl (XT.i0_le_f (by decide)) k) ?_
            show own_Go p e below _ T6 (mkF m 240 #[iv p0, iv p1, iv p2, iv p3, iv p4, iv p5, iv 1, iv bx0, iv bx1, iv bx2, iv bx3, iv bx4, iv bx5, iv bx6, rv a1, iv 0, iv mk, iv ex, .unset] [])
            refine own_st (fun _ k => XS.aload X6.here hx rfl (hb hby at_240) rfl rfl k) ?_
            show own_Go p e below _ T6 (mkF m 242 #[iv p0, iv p1, iv p2, iv p3, iv p4, iv p5, iv 1, iv bx0, iv bx1, iv bx2, iv bx3, iv bx4, iv bx5, iv bx6, rv a1, iv 0, iv mk, iv ex, .unset] [(.ref a1)])
            refine own_st (fun _ k => XT.iconstV X6.here hx rfl (0 : Int32) (hb hby at_242) (by decide) k) ?_
            show own_Go p e below _ T6 (mkF m 243 #[iv p0, iv p1, iv p2, iv p3, iv p4, iv p5, iv 1, iv bx0, iv bx1, iv bx2, iv bx3, iv bx4, iv bx5, iv bx6, rv a1, iv 0, iv mk, iv ex, .unset] [(.int 0), (.ref a1)])
            refine own_st (fun _ k => own_ldB X6 hx hZ eh6 V5_a1 ⟨by decide, by decide⟩ (v := (.int bx0.toInt8.toInt32)) rfl rfl rfl (hb hby at_243) k) ?_
            show own_Go p e below _ T6 (mkF m 244 #[iv p0, iv p1, iv p2, iv p3, iv p4, iv p5, iv 1, iv bx0, iv bx1, iv bx2, iv bx3, iv bx4, iv bx5, iv bx6, rv a1, iv 0, iv mk, iv ex, .unset] [(.int bx0.toInt8.toInt32)])
            refine own_st (fun _ k => XS.iload X6.here hx rfl (hb hby at_244) rfl k) ?_
            show own_Go p e below _ T6 (mkF m 246 #[iv p0, iv p1, iv p2, iv p3, iv p4, iv p5, iv 1, iv bx0, iv bx1, iv bx2, iv bx3, iv bx4, iv bx5, iv bx6, rv a1, iv 0, iv mk, iv ex, .unset] [(.int bx0), (.int bx0.toInt8.toInt32)])
            refine own_st (fun _ k => XS.icmpNo X6.here hx rfl (hb hby at_246) rfl (XT.ii_ne_f ok0) k) ?_
            show own_Go p e below _ T6 (mkF m 249 #[iv p0, iv p1, iv p2, iv p3, iv p4, iv p5, iv 1, iv bx0, iv bx1, iv bx2, iv bx3, iv bx4, iv bx5, iv bx6, rv a1, iv 0, iv mk, iv ex, .unset] [])
            refine own_st (fun _ k => XS.iload X6.here hx rfl (hb hby at_249) rfl k) ?_
            show own_Go p e below _ T6 (mkF m 251 #[iv p0, iv p1, iv p2, iv p3, iv p4, iv p5, iv 1, iv bx0, iv bx1, iv bx2, iv bx3, iv bx4, iv bx5, iv bx6, rv a1, iv 0, iv mk, iv ex, .unset] [(.int 1)])
            refine own_st (fun _ k => XT.iconstV X6.here hx rfl (1 : Int32) (hb hby at_251) (by decide) k) ?_
            show own_Go p e below _ T6 (mkF m 252 #[iv p0, iv p1, iv p2, iv p3, iv p4, iv p5, iv 1, iv bx0, iv bx1, iv bx2, iv bx3, iv bx4, iv bx5, iv bx6, rv a1, iv 0, iv mk, iv ex, .unset] [(.int 1), (.int 1)])
            refine own_st (fun _ k => XS.icmpYes X6.here hx rfl (pc0 := 252) (pc' := 264) rfl (hb hby at_252) rfl (XT.ii_le_t (by decide)) (by decide) (by decide) k) ?_
            show own_Go p e below _ T6 (mkF m 264 #[iv p0, iv p1, iv p2, iv p3, iv p4, iv p5, iv 1, iv bx0, iv bx1, iv bx2, iv bx3, iv bx4, iv bx5, iv bx6, rv a1, iv 0, iv mk, iv ex, .unset] [])
            refine own_st (fun _ k => XS.iload X6.here hx rfl (hb hby at_264) rfl k) ?_
            show own_Go p e below _ T6 (mkF m 266 #[iv p0, iv p1, iv p2, iv p3, iv p4, iv p5, iv 1, iv bx0, iv bx1, iv bx2, iv bx3, iv bx4, iv bx5, iv bx6, rv a1, iv 0, iv mk, iv ex, .unset] [(.int 1)])
            refine own_st (fun _ k => XT.iconstV X6.here hx rfl (2 : Int32) (hb hby at_266) (by decide) k) ?_
            show own_Go p e below _ T6 (mkF m 267 #[iv p0, iv p1, iv p2, iv p3, iv p4, iv p5, iv 1, iv bx0, iv bx1, iv bx2, iv bx3, iv bx4, iv bx5, iv bx6, rv a1, iv 0, iv mk, iv ex, .unset] [(.int 2), (.int 1)])
            refine own_st (fun _ k => XS.icmpYes X6.here hx rfl (pc0 := 267) (pc' := 279) rfl (hb hby at_267) rfl (XT.ii_le_t (by decide)) (by decide) (by decide) k) ?_
            show own_Go p e below _ T6 (mkF m 279 #[iv p0, iv p1, iv p2, iv p3, iv p4, iv p5, iv 1, iv bx0, iv bx1, iv bx2, iv bx3, iv bx4, iv bx5, iv bx6, rv a1, iv 0, iv mk, iv ex, .unset] [])
            refine own_st (fun _ k => XS.iload X6.here hx rfl (hb hby at_279) rfl k) ?_
            show own_Go p e below _ T6 (mkF m 281 #[iv p0, iv p1, iv p2, iv p3, iv p4, iv p5, iv 1, iv bx0, iv bx1, iv bx2, iv bx3, iv bx4, iv bx5, iv bx6, rv a1, iv 0, iv mk, iv ex, .unset] [(.int 1)])
            refine own_st (fun _ k => XT.iconstV X6.here hx rfl (3 : Int32) (hb hby at_281) (by decide) k) ?_
            show own_Go p e below _ T6 (mkF m 282 #[iv p0, iv p1, iv p2, iv p3, iv p4, iv p5, iv 1, iv bx0, iv bx1, iv bx2, iv bx3, iv bx4, iv bx5, iv bx6, rv a1, iv 0, iv mk, iv ex, .unset] [(.int 3), (.int 1)])
            refine own_st (fun _ k => XS.icmpYes X6.here hx rfl (pc0 := 282) (pc' := 294) rfl (hb hby at_282) rfl (XT.ii_le_t (by decide)) (by decide) (by decide) k) ?_
            show own_Go p e below _ T6 (mkF m 294 #[iv p0, iv p1, iv p2, iv p3, iv p4, iv p5, iv 1, iv bx0, iv bx1, iv bx2, iv bx3, iv bx4, iv bx5, iv bx6, rv a1, iv 0, iv mk, iv ex, .unset] [])
            refine own_st (fun _ k => XT.iconstV X6.here hx rfl (1 : Int32) (hb hby at_294) (by decide) k) ?_
            show own_Go p e below _ T6 (mkF m 295 #[iv p0, iv p1, iv p2, iv p3, iv p4, iv p5, iv 1, iv bx0, iv bx1, iv bx2, iv bx3, iv bx4, iv bx5, iv bx6, rv a1, iv 0, iv mk, iv ex, .unset] [(.int 1)])
            refine own_st (fun _ k => XS.goto X6.here hx rfl (pc0 := 295) (pc' := 299) rfl (hb hby at_295) (by decide) (by decide) k) ?_
            show own_Go p e below _ T6 (mkF m 299 #[iv p0, iv p1, iv p2, iv p3, iv p4, iv p5, iv 1, iv bx0, iv bx1, iv bx2, iv bx3, iv bx4, iv bx5, iv bx6, rv a1, iv 0, iv mk, iv ex, .unset] [(.int 1)])
            refine own_st (fun _ k => XS.istore X6.here hx rfl (hb hby at_299) rfl (l' := #[iv p0, iv p1, iv p2, iv p3, iv p4, iv p5, iv 1, iv bx0, iv bx1, iv bx2, iv bx3, iv bx4, iv bx5, iv bx6, rv a1, iv 0, iv mk, iv ex, iv 1]) rfl k) ?_
            show own_Go p e below _ T6 (mkF m 301 #[iv p0, iv p1, iv p2, iv p3, iv p4, iv p5, iv 1, iv bx0, iv bx1, iv bx2, iv bx3, iv bx4, iv bx5, iv bx6, rv a1, iv 0, iv mk, iv ex, iv 1] [])
            refine own_st (fun _ k => XS.iload X6.here hx rfl (hb hby at_301) rfl k) ?_
            show own_Go p e below _ T6 (mkF m 303 #[iv p0, iv p1, iv p2, iv p3, iv p4, iv p5, iv 1, iv bx0, iv bx1, iv bx2, iv bx3, iv bx4, iv bx5, iv bx6, rv a1, iv 0, iv mk, iv ex, iv 1] [(.int 0)])
            refine own_st (fun _ k => XS.iload X6.here hx rfl (hb hby at_303) rfl k) ?_
            show own_Go p e below _ T6 (mkF m 305 #[iv p0, iv p1, iv p2, iv p3, iv p4, iv p5, iv 1, iv bx0, iv bx1, iv bx2, iv bx3, iv bx4, iv bx5, iv bx6, rv a1, iv 0, iv mk, iv ex, iv 1] [(.int ex), (.int 0)])
            refine own_st (fun _ k => XS.icmpNo X6.here hx rfl (hb hby at_305) rfl (XT.ii_ne_f hex.symm) k) ?_
            show own_Go p e below _ T6 (mkF m 308 #[iv p0, iv p1, iv p2, iv p3, iv p4, iv p5, iv 1, iv bx0, iv bx1, iv bx2, iv bx3, iv bx4, iv bx5, iv bx6, rv a1, iv 0, iv mk, iv ex, iv 1] [])
            refine own_st (fun _ k => XS.iload X6.here hx rfl (hb hby at_308) rfl k) ?_
            show own_Go p e below _ T6 (mkF m 310 #[iv p0, iv p1, iv p2, iv p3, iv p4, iv p5, iv 1, iv bx0, iv bx1, iv bx2, iv bx3, iv bx4, iv bx5, iv bx6, rv a1, iv 0, iv mk, iv ex, iv 1] [(.int 1)])
            refine own_st (fun _ k => XS.ifNo X6.here hx rfl (hb hby at_310) rfl (XT.i0_eq_f (by decide)) k) ?_
            show own_Go p e below _ T6 (mkF m 313 #[iv p0, iv p1, iv p2, iv p3, iv p4, iv p5, iv 1, iv bx0, iv bx1, iv bx2, iv bx3, iv bx4, iv bx5, iv bx6, rv a1, iv 0, iv mk, iv ex, iv 1] [])
            refine own_st (fun _ k => XT.iconstV X6.here hx rfl (1 : Int32) (hb hby at_313) (by decide) k) ?_
            show own_Go p e below _ T6 (mkF m 314 #[iv p0, iv p1, iv p2, iv p3, iv p4, iv p5, iv 1, iv bx0, iv bx1, iv bx2, iv bx3, iv bx4, iv bx5, iv bx6, rv a1, iv 0, iv mk, iv ex, iv 1] [(.int 1)])
            refine own_st (fun _ k => XS.goto X6.here hx rfl (pc0 := 314) (pc' := 318) rfl (hb hby at_314) (by decide) (by decide) k) ?_
            show own_Go p e below _ T6 (mkF m 318 #[iv p0, iv p1, iv p2, iv p3, iv p4, iv p5, iv 1, iv bx0, iv bx1, iv bx2, iv bx3, iv bx4, iv bx5, iv bx6, rv a1, iv 0, iv mk, iv ex, iv 1] [(.int 1)])
            refine own_retN X6 hx Bd.notSynchronized (t := .boolean) Bd.returns (by simp) (hb hby at_318) (by decide) (by decide) ?_
            rw [eh6]
            exact ⟨rfl, M6⟩
          refine own_st (fun _ k => XS.icmpYes X6.here hx rfl (pc0 := 184) (pc' := 212) rfl (hb hby at_184) rfl (XT.ii_lt_t (by decide)) (by decide) (by decide) k) ?_
          show own_Go p e below _ T6 (mkF m 212 #[iv p0, iv p1, iv p2, iv p3, iv p4, iv p5, iv 1, iv bx0, iv bx1, iv bx2, iv bx3, iv bx4, iv bx5, iv bx6, rv a1, iv 0, .unset, .unset, .unset] [])
          refine own_st (fun _ k => XT.iconstV X6.here hx rfl (0 : Int32) (hb hby at_212) (by decide) k) ?_
          show own_Go p e below _ T6 (mkF m 213 #[iv p0, iv p1, iv p2, iv p3, iv p4, iv p5, iv 1, iv bx0, iv bx1, iv bx2, iv bx3, iv bx4, iv bx5, iv bx6, rv a1, iv 0, .unset, .unset, .unset] [(.int 0)])
          refine own_st (fun _ k => XS.istore X6.here hx rfl (hb hby at_213) rfl (l' := #[iv p0, iv p1, iv p2, iv p3, iv p4, iv p5, iv 1, iv bx0, iv bx1, iv bx2, iv bx3, iv bx4, iv bx5, iv bx6, rv a1, iv 0, iv 0, .unset, .unset]) rfl k) ?_
          show own_Go p e below _ T6 (mkF m 215 #[iv p0, iv p1, iv p2, iv p3, iv p4, iv p5, iv 1, iv bx0, iv bx1, iv bx2, iv bx3, iv bx4, iv bx5, iv bx6, rv a1, iv 0, iv 0, .unset, .unset] [])
          refine own_st (fun _ k => XS.iload X6.here hx rfl (hb hby at_215) rfl k) ?_
          show own_Go p e below _ T6 (mkF m 217 #[iv p0, iv p1, iv p2, iv p3, iv p4, iv p5, iv 1, iv bx0, iv bx1, iv bx2, iv bx3, iv bx4, iv bx5, iv bx6, rv a1, iv 0, iv 0, .unset, .unset] [(.int 0)])
          refine own_st (fun _ k => XS.ifYes X6.here hx rfl (pc0 := 217) (pc' := 224) rfl (hb hby at_217) rfl (XT.i0_eq_t (by decide)) (by decide) (by decide) k) ?_
          show own_Go p e below _ T6 (mkF m 224 #[iv p0, iv p1, iv p2, iv p3, iv p4, iv p5, iv 1, iv bx0, iv bx1, iv bx2, iv bx3, iv bx4, iv bx5, iv bx6, rv a1, iv 0, iv 0, .unset, .unset] [])
          refine own_st (fun _ k => XT.iconstV X6.here hx rfl (0 : Int32) (hb hby at_224) (by decide) k) ?_
          show own_Go p e below _ T6 (mkF m 225 #[iv p0, iv p1, iv p2, iv p3, iv p4, iv p5, iv 1, iv bx0, iv bx1, iv bx2, iv bx3, iv bx4, iv bx5, iv bx6, rv a1, iv 0, iv 0, .unset, .unset] [(.int 0)])
          refine own_st (fun _ k => XS.istore X6.here hx rfl (hb hby at_225) rfl (l' := #[iv p0, iv p1, iv p2, iv p3, iv p4, iv p5, iv 1, iv bx0, iv bx1, iv bx2, iv bx3, iv bx4, iv bx5, iv bx6, rv a1, iv 0, iv 0, iv 0, .unset]) rfl k) ?_
          show own_Go p e below _ T6 (mkF m 227 #[iv p0, iv p1, iv p2, iv p3, iv p4, iv p5, iv 1, iv bx0, iv bx1, iv bx2, iv bx3, iv bx4, iv bx5, iv bx6, rv a1, iv 0, iv 0, iv 0, .unset] [])
          exact KE _ _ rfl
        · show own_Go p e below _ s₁ (mkF m 85 #[iv p0, iv p1, iv p2, iv p3, iv p4, iv p5, iv 2, iv bx0, iv bx1, iv bx2, iv bx3, iv bx4, iv bx5, iv bx6, .unset, .unset, .unset, .unset, .unset] [(.int 2)])
          obtain ⟨T8, h8, k_a1, X8, e8, x8, A8, st8⟩ := newP X0 hx hZ (hw _ (List.mem_of_getElem? (i := 0) rfl)) e0 (g := (mkF m 85 #[iv p0, iv p1, iv p2, iv p3, iv p4, iv p5, iv 2, iv bx0, iv bx1, iv bx2, iv bx3, iv bx4, iv bx5, iv bx6, .unset, .unset, .unset, .unset, .unset] [(.int 2)])) rfl (hb hby at_85) rfl (by decide) (cap := 2) (by decide) (by decide) (by decide) (by decide)
          obtain ⟨a1, g8⟩ : ∃ z, z = h0.size := ⟨_, rfl⟩
          rw [← g8] at A8 st8
          have g_a1 : n0 ≤ a1 := g8 ▸ Z0
          have O8 := O0.ext x8
          have Z8 : n0 ≤ h8.size := Nat.le_trans Z0 x8.1
          clear O0 Z0
          have V8_a1 : Arv Z h8 a1 k_a1 .byte (2 : Int32) [(.int 0), (.int 0)] (.int 0) := (Arv.new A8 (by decide)).pad (pad_rep [] (.int 0) 2)
          clear X0 e0
          refine own_st st8 ?_
          clear st8
          show own_Go p e below _ T8 (mkF m 87 #[iv p0, iv p1, iv p2, iv p3, iv p4, iv p5, iv 2, iv bx0, iv bx1, iv bx2, iv bx3, iv bx4, iv bx5, iv bx6, .unset, .unset, .unset, .unset, .unset] [(.ref a1)])
          refine own_st (fun _ k => XS.astore X8.here hx rfl (hb hby at_87) rfl rfl (l' := #[iv p0, iv p1, iv p2, iv p3, iv p4, iv p5, iv 2, iv bx0, iv bx1, iv bx2, iv bx3, iv bx4, iv bx5, iv bx6, rv a1, .unset, .unset, .unset, .unset]) rfl k) ?_
          show own_Go p e below _ T8 (mkF m 89 #[iv p0, iv p1, iv p2, iv p3, iv p4, iv p5, iv 2, iv bx0, iv bx1, iv bx2, iv bx3, iv bx4, iv bx5, iv bx6, rv a1, .unset, .unset, .unset, .unset] [])
          refine own_st (fun _ k => XS.iload X8.here hx rfl (hb hby at_89) rfl k) ?_
          show own_Go p e below _ T8 (mkF m 91 #[iv p0, iv p1, iv p2, iv p3, iv p4, iv p5, iv 2, iv bx0, iv bx1, iv bx2, iv bx3, iv bx4, iv bx5, iv bx6, rv a1, .unset, .unset, .unset, .unset] [(.int 2)])
          refine own_st (fun _ k => XS.ifNo X8.here hx rfl (hb hby at_91) rfl (XT.i0_le_f (by decide)) k) ?_
          show own_Go p e below _ T8 (mkF m 94 #[iv p0, iv p1, iv p2, iv p3, iv p4, iv p5, iv 2, iv bx0, iv bx1, iv bx2, iv bx3, iv bx4, iv bx5, iv bx6, rv a1, .unset, .unset, .unset, .unset] [])
          refine own_st (fun _ k => XS.aload X8.here hx rfl (hb hby at_94) rfl rfl k) ?_
          show own_Go p e below _ T8 (mkF m 96 #[iv p0, iv p1, iv p2, iv p3, iv p4, iv p5, iv 2, iv bx0, iv bx1, iv bx2, iv bx3, iv bx4, iv bx5, iv bx6, rv a1, .unset, .unset, .unset, .unset] [(.ref a1)])
          refine own_st (fun _ k => XT.iconstV X8.here hx rfl (0 : Int32) (hb hby at_96) (by decide) k) ?_
          show own_Go p e below _ T8 (mkF m 97 #[iv p0, iv p1, iv p2, iv p3, iv p4, iv p5, iv 2, iv bx0, iv bx1, iv bx2, iv bx3, iv bx4, iv bx5, iv bx6, rv a1, .unset, .unset, .unset, .unset] [(.int 0), (.ref a1)])
          refine own_st (fun _ k => XS.iload X8.here hx rfl (hb hby at_97) rfl k) ?_
          show own_Go p e below _ T8 (mkF m 99 #[iv p0, iv p1, iv p2, iv p3, iv p4, iv p5, iv 2, iv bx0, iv bx1, iv bx2, iv bx3, iv bx4, iv bx5, iv bx6, rv a1, .unset, .unset, .unset, .unset] [(.int bx0), (.int 0), (.ref a1)])
          obtain ⟨T9, h9, X9, e9, W9, V9, st9⟩ := own_stB X8 hx hZ e8 V8_a1 (j := (0 : Int32)) ⟨by decide, by decide⟩ 0 rfl (Nat.le_of_ble_eq_true rfl) (g := (mkF m 99 #[iv p0, iv p1, iv p2, iv p3, iv p4, iv p5, iv 2, iv bx0, iv bx1, iv bx2, iv bx3, iv bx4, iv bx5, iv bx6, rv a1, .unset, .unset, .unset, .unset] [(.int bx0), (.int 0), (.ref a1)])) rfl rfl (hb hby at_99)
          have V9_a1 : Arv Z h9 a1 k_a1 .byte (2 : Int32) [(.int bx0.toInt8.toInt32), (.int 0)] (.int 0) := V9
          have O9 := O8.wr W9 g_a1
          have Z9 : n0 ≤ h9.size := by rw [W9.size]; exact Z8
          clear O8 Z8 V8_a1 W9
          have N9 := Fr.snoc X9 N0 g_a1
          clear X8 e8
          refine own_st st9 ?_
          clear st9
          show own_Go p e below _ T9 (mkF m 100 #[iv p0, iv p1, iv p2, iv p3, iv p4, iv p5, iv 2, iv bx0, iv bx1, iv bx2, iv bx3, iv bx4, iv bx5, iv bx6, rv a1, .unset, .unset, .unset, .unset] [])
          refine own_st (fun _ k => XS.iload X9.here hx rfl (hb hby at_100) rfl k) ?_
          show own_Go p e below _ T9 (mkF m 102 #[iv p0, iv p1, iv p2, iv p3, iv p4, iv p5, iv 2, iv bx0, iv bx1, iv bx2, iv bx3, iv bx4, iv bx5, iv bx6, rv a1, .unset, .unset, .unset, .unset] [(.int 2)])
          refine own_st (fun _ k => XT.iconstV X9.here hx rfl (1 : Int32) (hb hby at_102) (by decide) k) ?_
          show own_Go p e below _ T9 (mkF m 103 #[iv p0, iv p1, iv p2, iv p3, iv p4, iv p5, iv 2, iv bx0, iv bx1, iv bx2, iv bx3, iv bx4, iv bx5, iv bx6, rv a1, .unset, .unset, .unset, .unset] [(.int 1), (.int 2)])
          refine own_st (fun _ k => XS.icmpNo X9.here hx rfl (hb hby at_103) rfl (XT.ii_le_f (by decide)) k) ?_
          show own_Go p e below _ T9 (mkF m 106 #[iv p0, iv p1, iv p2, iv p3, iv p4, iv p5, iv 2, iv bx0, iv bx1, iv bx2, iv bx3, iv bx4, iv bx5, iv bx6, rv a1, .unset, .unset, .unset, .unset] [])
          refine own_st (fun _ k => XS.aload X9.here hx rfl (hb hby at_106) rfl rfl k) ?_
          show own_Go p e below _ T9 (mkF m 108 #[iv p0, iv p1, iv p2, iv p3, iv p4, iv p5, iv 2, iv bx0, iv bx1, iv bx2, iv bx3, iv bx4, iv bx5, iv bx6, rv a1, .unset, .unset, .unset, .unset] [(.ref a1)])
          refine own_st (fun _ k => XT.iconstV X9.here hx rfl (1 : Int32) (hb hby at_108) (by decide) k) ?_
          show own_Go p e below _ T9 (mkF m 109 #[iv p0, iv p1, iv p2, iv p3, iv p4, iv p5, iv 2, iv bx0, iv bx1, iv bx2, iv bx3, iv bx4, iv bx5, iv bx6, rv a1, .unset, .unset, .unset, .unset] [(.int 1), (.ref a1)])
          refine own_st (fun _ k => XS.iload X9.here hx rfl (hb hby at_109) rfl k) ?_
          show own_Go p e below _ T9 (mkF m 111 #[iv p0, iv p1, iv p2, iv p3, iv p4, iv p5, iv 2, iv bx0, iv bx1, iv bx2, iv bx3, iv bx4, iv bx5, iv bx6, rv a1, .unset, .unset, .unset, .unset] [(.int bx1), (.int 1), (.ref a1)])
          obtain ⟨T10, h10, X10, e10, W10, V10, st10⟩ := own_stB X9 hx hZ e9 V9_a1 (j := (1 : Int32)) ⟨by decide, by decide⟩ 1 rfl (Nat.le_of_ble_eq_true rfl) (g := (mkF m 111 #[iv p0, iv p1, iv p2, iv p3, iv p4, iv p5, iv 2, iv bx0, iv bx1, iv bx2, iv bx3, iv bx4, iv bx5, iv bx6, rv a1, .unset, .unset, .unset, .unset] [(.int bx1), (.int 1), (.ref a1)])) rfl rfl (hb hby at_111)
          have V10_a1 : Arv Z h10 a1 k_a1 .byte (2 : Int32) [(.int bx0.toInt8.toInt32), (.int bx1.toInt8.toInt32)] (.int 0) := V10
          have O10 := O9.wr W10 g_a1
          have Z10 : n0 ≤ h10.size := by rw [W10.size]; exact Z9
          clear O9 Z9 V9_a1 W10
          have N10 := Fr.snoc X10 N9 g_a1
          clear X9 e9
          refine own_st st10 ?_
          clear st10
          show own_Go p e below _ T10 (mkF m 112 #[iv p0, iv p1, iv p2, iv p3, iv p4, iv p5, iv 2, iv bx0, iv bx1, iv bx2, iv bx3, iv bx4, iv bx5, iv bx6, rv a1, .unset, .unset, .unset, .unset] [])
          refine own_st (fun _ k => XS.iload X10.here hx rfl (hb hby at_112) rfl k) ?_
          show own_Go p e below _ T10 (mkF m 114 #[iv p0, iv p1, iv p2, iv p3, iv p4, iv p5, iv 2, iv bx0, iv bx1, iv bx2, iv bx3, iv bx4, iv bx5, iv bx6, rv a1, .unset, .unset, .unset, .unset] [(.int 2)])
          refine own_st (fun _ k => XT.iconstV X10.here hx rfl (2 : Int32) (hb hby at_114) (by decide) k) ?_
          show own_Go p e below _ T10 (mkF m 115 #[iv p0, iv p1, iv p2, iv p3, iv p4, iv p5, iv 2, iv bx0, iv bx1, iv bx2, iv bx3, iv bx4, iv bx5, iv bx6, rv a1, .unset, .unset, .unset, .unset] [(.int 2), (.int 2)])
          refine own_st (fun _ k => XS.icmpYes X10.here hx rfl (pc0 := 115) (pc' := 124) rfl (hb hby at_115) rfl (XT.ii_le_t (by decide)) (by decide) (by decide) k) ?_
          show own_Go p e below _ T10 (mkF m 124 #[iv p0, iv p1, iv p2, iv p3, iv p4, iv p5, iv 2, iv bx0, iv bx1, iv bx2, iv bx3, iv bx4, iv bx5, iv bx6, rv a1, .unset, .unset, .unset, .unset] [])
          refine own_st (fun _ k => XS.iload X10.here hx rfl (hb hby at_124) rfl k) ?_
          show own_Go p e below _ T10 (mkF m 126 #[iv p0, iv p1, iv p2, iv p3, iv p4, iv p5, iv 2, iv bx0, iv bx1, iv bx2, iv bx3, iv bx4, iv bx5, iv bx6, rv a1, .unset, .unset, .unset, .unset] [(.int 2)])
          refine own_st (fun _ k => XT.iconstV X10.here hx rfl (3 : Int32) (hb hby at_126) (by decide) k) ?_
          show own_Go p e below _ T10 (mkF m 127 #[iv p0, iv p1, iv p2, iv p3, iv p4, iv p5, iv 2, iv bx0, iv bx1, iv bx2, iv bx3, iv bx4, iv bx5, iv bx6, rv a1, .unset, .unset, .unset, .unset] [(.int 3), (.int 2)])
          refine own_st (fun _ k => XS.icmpYes X10.here hx rfl (pc0 := 127) (pc' := 136) rfl (hb hby at_127) rfl (XT.ii_le_t (by decide)) (by decide) (by decide) k) ?_
          show own_Go p e below _ T10 (mkF m 136 #[iv p0, iv p1, iv p2, iv p3, iv p4, iv p5, iv 2, iv bx0, iv bx1, iv bx2, iv bx3, iv bx4, iv bx5, iv bx6, rv a1, .unset, .unset, .unset, .unset] [])
          refine own_st (fun _ k => XS.iload X10.here hx rfl (hb hby at_136) rfl k) ?_
          show own_Go p e below _ T10 (mkF m 138 #[iv p0, iv p1, iv p2, iv p3, iv p4, iv p5, iv 2, iv bx0, iv bx1, iv bx2, iv bx3, iv bx4, iv bx5, iv bx6, rv a1, .unset, .unset, .unset, .unset] [(.int 2)])
          refine own_st (fun _ k => XT.iconstV X10.here hx rfl (4 : Int32) (hb hby at_138) (by decide) k) ?_
          show own_Go p e below _ T10 (mkF m 139 #[iv p0, iv p1, iv p2, iv p3, iv p4, iv p5, iv 2, iv bx0, iv bx1, iv bx2, iv bx3, iv bx4, iv bx5, iv bx6, rv a1, .unset, .unset, .unset, .unset] [(.int 4), (.int 2)])
          refine own_st (fun _ k => XS.icmpYes X10.here hx rfl (pc0 := 139) (pc' := 148) rfl (hb hby at_139) rfl (XT.ii_le_t (by decide)) (by decide) (by decide) k) ?_
          show own_Go p e below _ T10 (mkF m 148 #[iv p0, iv p1, iv p2, iv p3, iv p4, iv p5, iv 2, iv bx0, iv bx1, iv bx2, iv bx3, iv bx4, iv bx5, iv bx6, rv a1, .unset, .unset, .unset, .unset] [])
          refine own_st (fun _ k => XS.iload X10.here hx rfl (hb hby at_148) rfl k) ?_
          show own_Go p e below _ T10 (mkF m 150 #[iv p0, iv p1, iv p2, iv p3, iv p4, iv p5, iv 2, iv bx0, iv bx1, iv bx2, iv bx3, iv bx4, iv bx5, iv bx6, rv a1, .unset, .unset, .unset, .unset] [(.int 2)])
          refine own_st (fun _ k => XT.iconstV X10.here hx rfl (5 : Int32) (hb hby at_150) (by decide) k) ?_
          show own_Go p e below _ T10 (mkF m 151 #[iv p0, iv p1, iv p2, iv p3, iv p4, iv p5, iv 2, iv bx0, iv bx1, iv bx2, iv bx3, iv bx4, iv bx5, iv bx6, rv a1, .unset, .unset, .unset, .unset] [(.int 5), (.int 2)])
          refine own_st (fun _ k => XS.icmpYes X10.here hx rfl (pc0 := 151) (pc' := 160) rfl (hb hby at_151) rfl (XT.ii_le_t (by decide)) (by decide) (by decide) k) ?_
          show own_Go p e below _ T10 (mkF m 160 #[iv p0, iv p1, iv p2, iv p3, iv p4, iv p5, iv 2, iv bx0, iv bx1, iv bx2, iv bx3, iv bx4, iv bx5, iv bx6, rv a1, .unset, .unset, .unset, .unset] [])
          refine own_st (fun _ k => XS.iload X10.here hx rfl (hb hby at_160) rfl k) ?_
          show own_Go p e below _ T10 (mkF m 162 #[iv p0, iv p1, iv p2, iv p3, iv p4, iv p5, iv 2, iv bx0, iv bx1, iv bx2, iv bx3, iv bx4, iv bx5, iv bx6, rv a1, .unset, .unset, .unset, .unset] [(.int 2)])
          refine own_st (fun _ k => XT.bipushV X10.here hx rfl (6 : Int32) (hb hby at_162) (by decide) k) ?_
          show own_Go p e below _ T10 (mkF m 164 #[iv p0, iv p1, iv p2, iv p3, iv p4, iv p5, iv 2, iv bx0, iv bx1, iv bx2, iv bx3, iv bx4, iv bx5, iv bx6, rv a1, .unset, .unset, .unset, .unset] [(.int 6), (.int 2)])
          refine own_st (fun _ k => XS.icmpYes X10.here hx rfl (pc0 := 164) (pc' := 174) rfl (hb hby at_164) rfl (XT.ii_le_t (by decide)) (by decide) (by decide) k) ?_
          show own_Go p e below _ T10 (mkF m 174 #[iv p0, iv p1, iv p2, iv p3, iv p4, iv p5, iv 2, iv bx0, iv bx1, iv bx2, iv bx3, iv bx4, iv bx5, iv bx6, rv a1, .unset, .unset, .unset, .unset] [])
          refine own_st (fun _ k => XS.aload X10.here hx rfl (hb hby at_174) rfl rfl k) ?_
          show own_Go p e below _ T10 (mkF m 176 #[iv p0, iv p1, iv p2, iv p3, iv p4, iv p5, iv 2, iv bx0, iv bx1, iv bx2, iv bx3, iv bx4, iv bx5, iv bx6, rv a1, .unset, .unset, .unset, .unset] [(.ref a1)])
          have VBx := VB.ext O10.2
          obtain ⟨_, _, ⟨T11, L11, k11, n11⟩, -, X11, ⟨Lc11, hQ11, l11, y11, z11⟩, st11⟩ := Jvm.LawKit.callS X10 hx (y := (⟨"com/example/broken_to_found/brokentofound/watch/UrlList", "byteOrderMarkLength", "([B)I"⟩ : MethodName)) hown (mvT hZ (hw _ (List.mem_of_getElem? (i := 1) rfl))) (mvT hZ (hw _ (List.mem_of_getElem? (i := 2) rfl))) (mvT hZ (hw _ (List.mem_of_getElem? (i := 3) rfl))) (mvT hZ (hw _ (List.mem_of_getElem? (i := 4) rfl))) (by decide) (backOf (W := 0) (own_rm_bos l Z a0 hw [] a1 k_a1 (2 : Int32) [(.int bx0.toInt8.toInt32), (.int bx1.toInt8.toInt32)] w_B kB h10 n0 Z10 V10_a1 VBx (by decide) (S_B.ext O10.2)) hZ (hw _ (List.mem_of_getElem? (i := 4) rfl)) (hw _ (List.mem_of_getElem? (i := 3) rfl)) (by decide) (by decide)) (g := (mkF m 176 #[iv p0, iv p1, iv p2, iv p3, iv p4, iv p5, iv 2, iv bx0, iv bx1, iv bx2, iv bx3, iv bx4, iv bx5, iv bx6, rv a1, .unset, .unset, .unset, .unset] [(.ref a1)])) rfl (by rw [hml]; rfl) (argsL := [(.ref a1)]) (rest := []) (lenOf own_pd3 rfl) rfl (by show 2 * 0 + _ ≤ _; exact Nat.le_of_eq rfl) (hb hby at_176) (fun _ _ => ⟨rfl, e10, (by decide : 1 + 0 ≤ _), (by decide : 2 + 0 ≤ _)⟩)
          dsimp only [Pt.U, Pt.locs, Pt.cells, Pt.slots] at X11 l11 y11 z11 st11 hQ11
          subst l11 y11 z11
          obtain ⟨rfl, N11, eh11⟩ := hQ11
          have M11 := Fr.app N10 N11
          refine own_st st11 ?_
          clear N10 X10 N11 e10 st11
          show own_Go p e below _ T11 (mkF m 179 #[iv p0, iv p1, iv p2, iv p3, iv p4, iv p5, iv 2, iv bx0, iv bx1, iv bx2, iv bx3, iv bx4, iv bx5, iv bx6, rv a1, .unset, .unset, .unset, .unset] [(.int 0)])
          refine own_st (fun _ k => XS.istore X11.here hx rfl (hb hby at_179) rfl (l' := #[iv p0, iv p1, iv p2, iv p3, iv p4, iv p5, iv 2, iv bx0, iv bx1, iv bx2, iv bx3, iv bx4, iv bx5, iv bx6, rv a1, iv 0, .unset, .unset, .unset]) rfl k) ?_
          show own_Go p e below _ T11 (mkF m 181 #[iv p0, iv p1, iv p2, iv p3, iv p4, iv p5, iv 2, iv bx0, iv bx1, iv bx2, iv bx3, iv bx4, iv bx5, iv bx6, rv a1, iv 0, .unset, .unset, .unset] [])
          refine own_st (fun _ k => XS.iload X11.here hx rfl (hb hby at_181) rfl k) ?_
          show own_Go p e below _ T11 (mkF m 183 #[iv p0, iv p1, iv p2, iv p3, iv p4, iv p5, iv 2, iv bx0, iv bx1, iv bx2, iv bx3, iv bx4, iv bx5, iv bx6, rv a1, iv 0, .unset, .unset, .unset] [(.int 2)])
          refine own_st (fun _ k => XT.iconstV X11.here hx rfl (3 : Int32) (hb hby at_183) (by decide) k) ?_
          show own_Go p e below _ T11 (mkF m 184 #[iv p0, iv p1, iv p2, iv p3, iv p4, iv p5, iv 2, iv bx0, iv bx1, iv bx2, iv bx3, iv bx4, iv bx5, iv bx6, rv a1, iv 0, .unset, .unset, .unset] [(.int 3), (.int 2)])
          have KE : ∀ mk ex : Int32, ex = (0 : Int32) → own_Go p e below (own_K s (own_Q_law Z p0 p1 p2 p3 p4 p5 w_B kB h0 n0) 16 128) T11 (mkF m 227 #[iv p0, iv p1, iv p2, iv p3, iv p4, iv p5, iv 2, iv bx0, iv bx1, iv bx2, iv bx3, iv bx4, iv bx5, iv bx6, rv a1, iv 0, iv mk, iv ex, .unset] []) := by
            intro mk ex hex
            show own_Go p e below _ T11 (mkF m 227 #[iv p0, iv p1, iv p2, iv p3, iv p4, iv p5, iv 2, iv bx0, iv bx1, iv bx2, iv bx3, iv bx4, iv bx5, iv bx6, rv a1, iv 0, iv mk, iv ex, .unset] [])
            refine own_st (fun _ k => XS.aload X11.here hx rfl (hb hby at_227) rfl rfl k) ?_
            show own_Go p e below _ T11 (mkF m 229 #[iv p0, iv p1, iv p2, iv p3, iv p4, iv p5, iv 2, iv bx0, iv bx1, iv bx2, iv bx3, iv bx4, iv bx5, iv bx6, rv a1, iv 0, iv mk, iv ex, .unset] [(.ref a1)])
            refine own_st (fun _ k => own_len X11 hx hZ eh11 V10_a1 rfl rfl (hb hby at_229) k) ?_
            show own_Go p e below _ T11 (mkF m 230 #[iv p0, iv p1, iv p2, iv p3, iv p4, iv p5, iv 2, iv bx0, iv bx1, iv bx2, iv bx3, iv bx4, iv bx5, iv bx6, rv a1, iv 0, iv mk, iv ex, .unset] [(.int 2)])
            refine own_st (fun _ k => XS.iload X11.here hx rfl (hb hby at_230) rfl k) ?_
            show own_Go p e below _ T11 (mkF m 232 #[iv p0, iv p1, iv p2, iv p3, iv p4, iv p5, iv 2, iv bx0, iv bx1, iv bx2, iv bx3, iv bx4, iv bx5, iv bx6, rv a1, iv 0, iv mk, iv ex, .unset] [(.int 2), (.int 2)])
            refine own_st (fun _ k => XS.icmpNo X11.here hx rfl (hb hby at_232) rfl (XT.ii_ne_f rfl) k) ?_
            show own_Go p e below _ T11 (mkF m 235 #[iv p0, iv p1, iv p2, iv p3, iv p4, iv p5, iv 2, iv bx0, iv bx1, iv bx2, iv bx3, iv bx4, iv bx5, iv bx6, rv a1, iv 0, iv mk, iv ex, .unset] [])
            refine own_st (fun _ k => XS.iload X11.here hx rfl (hb hby at_235) rfl k) ?_
            show own_Go p e below _ T11 (mkF m 237 #[iv p0, iv p1, iv p2, iv p3, iv p4, iv p5, iv 2, iv bx0, iv bx1, iv bx2, iv bx3, iv bx4, iv bx5, iv bx6, rv a1, iv 0, iv mk, iv ex, .unset] [(.int 2)])
            refine own_st (fun _ k => XS.ifNo X11.here hx rfl (hb hby at_237) rfl (XT.i0_le_f (by decide)) k) ?_
            show own_Go p e below _ T11 (mkF m 240 #[iv p0, iv p1, iv p2, iv p3, iv p4, iv p5, iv 2, iv bx0, iv bx1, iv bx2, iv bx3, iv bx4, iv bx5, iv bx6, rv a1, iv 0, iv mk, iv ex, .unset] [])
            refine own_st (fun _ k => XS.aload X11.here hx rfl (hb hby at_240) rfl rfl k) ?_
            show own_Go p e below _ T11 (mkF m 242 #[iv p0, iv p1, iv p2, iv p3, iv p4, iv p5, iv 2, iv bx0, iv bx1, iv bx2, iv bx3, iv bx4, iv bx5, iv bx6, rv a1, iv 0, iv mk, iv ex, .unset] [(.ref a1)])
            refine own_st (fun _ k => XT.iconstV X11.here hx rfl (0 : Int32) (hb hby at_242) (by decide) k) ?_
            show own_Go p e below _ T11 (mkF m 243 #[iv p0, iv p1, iv p2, iv p3, iv p4, iv p5, iv 2, iv bx0, iv bx1, iv bx2, iv bx3, iv bx4, iv bx5, iv bx6, rv a1, iv 0, iv mk, iv ex, .unset] [(.int 0), (.ref a1)])
            refine own_st (fun _ k => own_ldB X11 hx hZ eh11 V10_a1 ⟨by decide, by decide⟩ (v := (.int bx0.toInt8.toInt32)) rfl rfl rfl (hb hby at_243) k) ?_
            show own_Go p e below _ T11 (mkF m 244 #[iv p0, iv p1, iv p2, iv p3, iv p4, iv p5, iv 2, iv bx0, iv bx1, iv bx2, iv bx3, iv bx4, iv bx5, iv bx6, rv a1, iv 0, iv mk, iv ex, .unset] [(.int bx0.toInt8.toInt32)])
            refine own_st (fun _ k => XS.iload X11.here hx rfl (hb hby at_244) rfl k) ?_
            show own_Go p e below _ T11 (mkF m 246 #[iv p0, iv p1, iv p2, iv p3, iv p4, iv p5, iv 2, iv bx0, iv bx1, iv bx2, iv bx3, iv bx4, iv bx5, iv bx6, rv a1, iv 0, iv mk, iv ex, .unset] [(.int bx0), (.int bx0.toInt8.toInt32)])
            refine own_st (fun _ k => XS.icmpNo X11.here hx rfl (hb hby at_246) rfl (XT.ii_ne_f ok0) k) ?_
            show own_Go p e below _ T11 (mkF m 249 #[iv p0, iv p1, iv p2, iv p3, iv p4, iv p5, iv 2, iv bx0, iv bx1, iv bx2, iv bx3, iv bx4, iv bx5, iv bx6, rv a1, iv 0, iv mk, iv ex, .unset] [])
            refine own_st (fun _ k => XS.iload X11.here hx rfl (hb hby at_249) rfl k) ?_
            show own_Go p e below _ T11 (mkF m 251 #[iv p0, iv p1, iv p2, iv p3, iv p4, iv p5, iv 2, iv bx0, iv bx1, iv bx2, iv bx3, iv bx4, iv bx5, iv bx6, rv a1, iv 0, iv mk, iv ex, .unset] [(.int 2)])
            refine own_st (fun _ k => XT.iconstV X11.here hx rfl (1 : Int32) (hb hby at_251) (by decide) k) ?_
            show own_Go p e below _ T11 (mkF m 252 #[iv p0, iv p1, iv p2, iv p3, iv p4, iv p5, iv 2, iv bx0, iv bx1, iv bx2, iv bx3, iv bx4, iv bx5, iv bx6, rv a1, iv 0, iv mk, iv ex, .unset] [(.int 1), (.int 2)])
            refine own_st (fun _ k => XS.icmpNo X11.here hx rfl (hb hby at_252) rfl (XT.ii_le_f (by decide)) k) ?_
            show own_Go p e below _ T11 (mkF m 255 #[iv p0, iv p1, iv p2, iv p3, iv p4, iv p5, iv 2, iv bx0, iv bx1, iv bx2, iv bx3, iv bx4, iv bx5, iv bx6, rv a1, iv 0, iv mk, iv ex, .unset] [])
            refine own_st (fun _ k => XS.aload X11.here hx rfl (hb hby at_255) rfl rfl k) ?_
            show own_Go p e below _ T11 (mkF m 257 #[iv p0, iv p1, iv p2, iv p3, iv p4, iv p5, iv 2, iv bx0, iv bx1, iv bx2, iv bx3, iv bx4, iv bx5, iv bx6, rv a1, iv 0, iv mk, iv ex, .unset] [(.ref a1)])
            refine own_st (fun _ k => XT.iconstV X11.here hx rfl (1 : Int32) (hb hby at_257) (by decide) k) ?_
            show own_Go p e below _ T11 (mkF m 258 #[iv p0, iv p1, iv p2, iv p3, iv p4, iv p5, iv 2, iv bx0, iv bx1, iv bx2, iv bx3, iv bx4, iv bx5, iv bx6, rv a1, iv 0, iv mk, iv ex, .unset] [(.int 1), (.ref a1)])
            refine own_st (fun _ k => own_ldB X11 hx hZ eh11 V10_a1 ⟨by decide, by decide⟩ (v := (.int bx1.toInt8.toInt32)) rfl rfl rfl (hb hby at_258) k) ?_
            show own_Go p e below _ T11 (mkF m 259 #[iv p0, iv p1, iv p2, iv p3, iv p4, iv p5, iv 2, iv bx0, iv bx1, iv bx2, iv bx3, iv bx4, iv bx5, iv bx6, rv a1, iv 0, iv mk, iv ex, .unset] [(.int bx1.toInt8.toInt32)])
            refine own_st (fun _ k => XS.iload X11.here hx rfl (hb hby at_259) rfl k) ?_
            show own_Go p e below _ T11 (mkF m 261 #[iv p0, iv p1, iv p2, iv p3, iv p4, iv p5, iv 2, iv bx0, iv bx1, iv bx2, iv bx3, iv bx4, iv bx5, iv bx6, rv a1, iv 0, iv mk, iv ex, .unset] [(.int bx1), (.int bx1.toInt8.toInt32)])
            refine own_st (fun _ k => XS.icmpNo X11.here hx rfl (hb hby at_261) rfl (XT.ii_ne_f ok1) k) ?_
            show own_Go p e below _ T11 (mkF m 264 #[iv p0, iv p1, iv p2, iv p3, iv p4, iv p5, iv 2, iv bx0, iv bx1, iv bx2, iv bx3, iv bx4, iv bx5, iv bx6, rv a1, iv 0, iv mk, iv ex, .unset] [])
            refine own_st (fun _ k => XS.iload X11.here hx rfl (hb hby at_264) rfl k) ?_
            show own_Go p e below _ T11 (mkF m 266 #[iv p0, iv p1, iv p2, iv p3, iv p4, iv p5, iv 2, iv bx0, iv bx1, iv bx2, iv bx3, iv bx4, iv bx5, iv bx6, rv a1, iv 0, iv mk, iv ex, .unset] [(.int 2)])
            refine own_st (fun _ k => XT.iconstV X11.here hx rfl (2 : Int32) (hb hby at_266) (by decide) k) ?_
            show own_Go p e below _ T11 (mkF m 267 #[iv p0, iv p1, iv p2, iv p3, iv p4, iv p5, iv 2, iv bx0, iv bx1, iv bx2, iv bx3, iv bx4, iv bx5, iv bx6, rv a1, iv 0, iv mk, iv ex, .unset] [(.int 2), (.int 2)])
            refine own_st (fun _ k => XS.icmpYes X11.here hx rfl (pc0 := 267) (pc' := 279) rfl (hb hby at_267) rfl (XT.ii_le_t (by decide)) (by decide) (by decide) k) ?_
            show own_Go p e below _ T11 (mkF m 279 #[iv p0, iv p1, iv p2, iv p3, iv p4, iv p5, iv 2, iv bx0, iv bx1, iv bx2, iv bx3, iv bx4, iv bx5, iv bx6, rv a1, iv 0, iv mk, iv ex, .unset] [])
            refine own_st (fun _ k => XS.iload X11.here hx rfl (hb hby at_279) rfl k) ?_
            show own_Go p e below _ T11 (mkF m 281 #[iv p0, iv p1, iv p2, iv p3, iv p4, iv p5, iv 2, iv bx0, iv bx1, iv bx2, iv bx3, iv bx4, iv bx5, iv bx6, rv a1, iv 0, iv mk, iv ex, .unset] [(.int 2)])
            refine own_st (fun _ k => XT.iconstV X11.here hx rfl (3 : Int32) (hb hby at_281) (by decide) k) ?_
            show own_Go p e below _ T11 (mkF m 282 #[iv p0, iv p1, iv p2, iv p3, iv p4, iv p5, iv 2, iv bx0, iv bx1, iv bx2, iv bx3, iv bx4, iv bx5, iv bx6, rv a1, iv 0, iv mk, iv ex, .unset] [(.int 3), (.int 2)])
            refine own_st (fun _ k => XS.icmpYes X11.here hx rfl (pc0 := 282) (pc' := 294) rfl (hb hby at_282) rfl (XT.ii_le_t (by decide)) (by decide) (by decide) k) ?_
            show own_Go p e below _ T11 (mkF m 294 #[iv p0, iv p1, iv p2, iv p3, iv p4, iv p5, iv 2, iv bx0, iv bx1, iv bx2, iv bx3, iv bx4, iv bx5, iv bx6, rv a1, iv 0, iv mk, iv ex, .unset] [])
            refine own_st (fun _ k => XT.iconstV X11.here hx rfl (1 : Int32) (hb hby at_294) (by decide) k) ?_
            show own_Go p e below _ T11 (mkF m 295 #[iv p0, iv p1, iv p2, iv p3, iv p4, iv p5, iv 2, iv bx0, iv bx1, iv bx2, iv bx3, iv bx4, iv bx5, iv bx6, rv a1, iv 0, iv mk, iv ex, .unset] [(.int 1)])
            refine own_st (fun _ k => XS.goto X11.here hx rfl (pc0 := 295) (pc' := 299) rfl (hb hby at_295) (by decide) (by decide) k) ?_
            show own_Go p e below _ T11 (mkF m 299 #[iv p0, iv p1, iv p2, iv p3, iv p4, iv p5, iv 2, iv bx0, iv bx1, iv bx2, iv bx3, iv bx4, iv bx5, iv bx6, rv a1, iv 0, iv mk, iv ex, .unset] [(.int 1)])
            refine own_st (fun _ k => XS.istore X11.here hx rfl (hb hby at_299) rfl (l' := #[iv p0, iv p1, iv p2, iv p3, iv p4, iv p5, iv 2, iv bx0, iv bx1, iv bx2, iv bx3, iv bx4, iv bx5, iv bx6, rv a1, iv 0, iv mk, iv ex, iv 1]) rfl k) ?_
            show own_Go p e below _ T11 (mkF m 301 #[iv p0, iv p1, iv p2, iv p3, iv p4, iv p5, iv 2, iv bx0, iv bx1, iv bx2, iv bx3, iv bx4, iv bx5, iv bx6, rv a1, iv 0, iv mk, iv ex, iv 1] [])
            refine own_st (fun _ k => XS.iload X11.here hx rfl (hb hby at_301) rfl k) ?_
            show own_Go p e below _ T11 (mkF m 303 #[iv p0, iv p1, iv p2, iv p3, iv p4, iv p5, iv 2, iv bx0, iv bx1, iv bx2, iv bx3, iv bx4, iv bx5, iv bx6, rv a1, iv 0, iv mk, iv ex, iv 1] [(.int 0)])
            refine own_st (fun _ k => XS.iload X11.here hx rfl (hb hby at_303) rfl k) ?_
            show own_Go p e below _ T11 (mkF m 305 #[iv p0, iv p1, iv p2, iv p3, iv p4, iv p5, iv 2, iv bx0, iv bx1, iv bx2, iv bx3, iv bx4, iv bx5, iv bx6, rv a1, iv 0, iv mk, iv ex, iv 1] [(.int ex), (.int 0)])
            refine own_st (fun _ k => XS.icmpNo X11.here hx rfl (hb hby at_305) rfl (XT.ii_ne_f hex.symm) k) ?_
            show own_Go p e below _ T11 (mkF m 308 #[iv p0, iv p1, iv p2, iv p3, iv p4, iv p5, iv 2, iv bx0, iv bx1, iv bx2, iv bx3, iv bx4, iv bx5, iv bx6, rv a1, iv 0, iv mk, iv ex, iv 1] [])
            refine own_st (fun _ k => XS.iload X11.here hx rfl (hb hby at_308) rfl k) ?_
            show own_Go p e below _ T11 (mkF m 310 #[iv p0, iv p1, iv p2, iv p3, iv p4, iv p5, iv 2, iv bx0, iv bx1, iv bx2, iv bx3, iv bx4, iv bx5, iv bx6, rv a1, iv 0, iv mk, iv ex, iv 1] [(.int 1)])
            refine own_st (fun _ k => XS.ifNo X11.here hx rfl (hb hby at_310) rfl (XT.i0_eq_f (by decide)) k) ?_
            show own_Go p e below _ T11 (mkF m 313 #[iv p0, iv p1, iv p2, iv p3, iv p4, iv p5, iv 2, iv bx0, iv bx1, iv bx2, iv bx3, iv bx4, iv bx5, iv bx6, rv a1, iv 0, iv mk, iv ex, iv 1] [])
            refine own_st (fun _ k => XT.iconstV X11.here hx rfl (1 : Int32) (hb hby at_313) (by decide) k) ?_
            show own_Go p e below _ T11 (mkF m 314 #[iv p0, iv p1, iv p2, iv p3, iv p4, iv p5, iv 2, iv bx0, iv bx1, iv bx2, iv bx3, iv bx4, iv bx5, iv bx6, rv a1, iv 0, iv mk, iv ex, iv 1] [(.int 1)])
            refine own_st (fun _ k => XS.goto X11.here hx rfl (pc0 := 314) (pc' := 318) rfl (hb hby at_314) (by decide) (by decide) k) ?_
            show own_Go p e below _ T11 (mkF m 318 #[iv p0, iv p1, iv p2, iv p3, iv p4, iv p5, iv 2, iv bx0, iv bx1, iv bx2, iv bx3, iv bx4, iv bx5, iv bx6, rv a1, iv 0, iv mk, iv ex, iv 1] [(.int 1)])
            refine own_retN X11 hx Bd.notSynchronized (t := .boolean) Bd.returns (by simp) (hb hby at_318) (by decide) (by decide) ?_
            rw [eh11]
            exact ⟨rfl, M11⟩
          refine own_st (fun _ k => XS.icmpYes X11.here hx rfl (pc0 := 184) (pc' := 212) rfl (hb hby at_184) rfl (XT.ii_lt_t (by decide)) (by decide) (by decide) k) ?_
          show own_Go p e below _ T11 (mkF m 212 #[iv p0, iv p1, iv p2, iv p3, iv p4, iv p5, iv 2, iv bx0, iv bx1, iv bx2, iv bx3, iv bx4, iv bx5, iv bx6, rv a1, iv 0, .unset, .unset, .unset] [])
          refine own_st (fun _ k => XT.iconstV X11.here hx rfl (0 : Int32) (hb hby at_212) (by decide) k) ?_
          show own_Go p e below _ T11 (mkF m 213 #[iv p0, iv p1, iv p2, iv p3, iv p4, iv p5, iv 2, iv bx0, iv bx1, iv bx2, iv bx3, iv bx4, iv bx5, iv bx6, rv a1, iv 0, .unset, .unset, .unset] [(.int 0)])
          refine own_st (fun _ k => XS.istore X11.here hx rfl (hb hby at_213) rfl (l' := #[iv p0, iv p1, iv p2, iv p3, iv p4, iv p5, iv 2, iv bx0, iv bx1, iv bx2, iv bx3, iv bx4, iv bx5, iv bx6, rv a1, iv 0, iv 0, .unset, .unset]) rfl k) ?_
          show own_Go p e below _ T11 (mkF m 215 #[iv p0, iv p1, iv p2, iv p3, iv p4, iv p5, iv 2, iv bx0, iv bx1, iv bx2, iv bx3, iv bx4, iv bx5, iv bx6, rv a1, iv 0, iv 0, .unset, .unset] [])
          refine own_st (fun _ k => XS.iload X11.here hx rfl (hb hby at_215) rfl k) ?_
          show own_Go p e below _ T11 (mkF m 217 #[iv p0, iv p1, iv p2, iv p3, iv p4, iv p5, iv 2, iv bx0, iv bx1, iv bx2, iv bx3, iv bx4, iv bx5, iv bx6, rv a1, iv 0, iv 0, .unset, .unset] [(.int 0)])
          refine own_st (fun _ k => XS.ifYes X11.here hx rfl (pc0 := 217) (pc' := 224) rfl (hb hby at_217) rfl (XT.i0_eq_t (by decide)) (by decide) (by decide) k) ?_
          show own_Go p e below _ T11 (mkF m 224 #[iv p0, iv p1, iv p2, iv p3, iv p4, iv p5, iv 2, iv bx0, iv bx1, iv bx2, iv bx3, iv bx4, iv bx5, iv bx6, rv a1, iv 0, iv 0, .unset, .unset] [])
          refine own_st (fun _ k => XT.iconstV X11.here hx rfl (0 : Int32) (hb hby at_224) (by decide) k) ?_
          show own_Go p e below _ T11 (mkF m 225 #[iv p0, iv p1, iv p2, iv p3, iv p4, iv p5, iv 2, iv bx0, iv bx1, iv bx2, iv bx3, iv bx4, iv bx5, iv bx6, rv a1, iv 0, iv 0, .unset, .unset] [(.int 0)])
          refine own_st (fun _ k => XS.istore X11.here hx rfl (hb hby at_225) rfl (l' := #[iv p0, iv p1, iv p2, iv p3, iv p4, iv p5, iv 2, iv bx0, iv bx1, iv bx2, iv bx3, iv bx4, iv bx5, iv bx6, rv a1, iv 0, iv 0, iv 0, .unset]) rfl k) ?_
          show own_Go p e below _ T11 (mkF m 227 #[iv p0, iv p1, iv p2, iv p3, iv p4, iv p5, iv 2, iv bx0, iv bx1, iv bx2, iv bx3, iv bx4, iv bx5, iv bx6, rv a1, iv 0, iv 0, iv 0, .unset] [])
          exact KE _ _ rfl
        · show own_Go p e below _ s₁ (mkF m 85 #[iv p0, iv p1, iv p2, iv p3, iv p4, iv p5, iv 3, iv bx0, iv bx1, iv bx2, iv bx3, iv bx4, iv bx5, iv bx6, .unset, .unset, .unset, .unset, .unset] [(.int 3)])
          obtain ⟨T13, h13, k_a1, X13, e13, x13, A13, st13⟩ := newP X0 hx hZ (hw _ (List.mem_of_getElem? (i := 0) rfl)) e0 (g := (mkF m 85 #[iv p0, iv p1, iv p2, iv p3, iv p4, iv p5, iv 3, iv bx0, iv bx1, iv bx2, iv bx3, iv bx4, iv bx5, iv bx6, .unset, .unset, .unset, .unset, .unset] [(.int 3)])) rfl (hb hby at_85) rfl (by decide) (cap := 3) (by decide) (by decide) (by decide) (by decide)
          obtain ⟨a1, g13⟩ : ∃ z, z = h0.size := ⟨_, rfl⟩
          rw [← g13] at A13 st13
          have g_a1 : n0 ≤ a1 := g13 ▸ Z0
          have O13 := O0.ext x13
          have Z13 : n0 ≤ h13.size := Nat.le_trans Z0 x13.1
          clear O0 Z0
          have V13_a1 : Arv Z h13 a1 k_a1 .byte (3 : Int32) [(.int 0), (.int 0), (.int 0)] (.int 0) := (Arv.new A13 (by decide)).pad (pad_rep [] (.int 0) 3)
          clear X0 e0
          refine own_st st13 ?_
          clear st13
          show own_Go p e below _ T13 (mkF m 87 #[iv p0, iv p1, iv p2, iv p3, iv p4, iv p5, iv 3, iv bx0, iv bx1, iv bx2, iv bx3, iv bx4, iv bx5, iv bx6, .unset, .unset, .unset, .unset, .unset] [(.ref a1)])
          refine own_st (fun _ k => XS.astore X13.here hx rfl (hb hby at_87) rfl rfl (l' := #[iv p0, iv p1, iv p2, iv p3, iv p4, iv p5, iv 3, iv bx0, iv bx1, iv bx2, iv bx3, iv bx4, iv bx5, iv bx6, rv a1, .unset, .unset, .unset, .unset]) rfl k) ?_
          show own_Go p e below _ T13 (mkF m 89 #[iv p0, iv p1, iv p2, iv p3, iv p4, iv p5, iv 3, iv bx0, iv bx1, iv bx2, iv bx3, iv bx4, iv bx5, iv bx6, rv a1, .unset, .unset, .unset, .unset] [])
          refine own_st (fun _ k => XS.iload X13.here hx rfl (hb hby at_89) rfl k) ?_
          show own_Go p e below _ T13 (mkF m 91 #[iv p0, iv p1, iv p2, iv p3, iv p4, iv p5, iv 3, iv bx0, iv bx1, iv bx2, iv bx3, iv bx4, iv bx5, iv bx6, rv a1, .unset, .unset, .unset, .unset] [(.int 3)])
          refine own_st (fun _ k => XS.ifNo X13.here hx rfl (hb hby at_91) rfl (XT.i0_le_f (by decide)) k) ?_
          show own_Go p e below _ T13 (mkF m 94 #[iv p0, iv p1, iv p2, iv p3, iv p4, iv p5, iv 3, iv bx0, iv bx1, iv bx2, iv bx3, iv bx4, iv bx5, iv bx6, rv a1, .unset, .unset, .unset, .unset] [])
          refine own_st (fun _ k => XS.aload X13.here hx rfl (hb hby at_94) rfl rfl k) ?_
          show own_Go p e below _ T13 (mkF m 96 #[iv p0, iv p1, iv p2, iv p3, iv p4, iv p5, iv 3, iv bx0, iv bx1, iv bx2, iv bx3, iv bx4, iv bx5, iv bx6, rv a1, .unset, .unset, .unset, .unset] [(.ref a1)])
          refine own_st (fun _ k => XT.iconstV X13.here hx rfl (0 : Int32) (hb hby at_96) (by decide) k) ?_
          show own_Go p e below _ T13 (mkF m 97 #[iv p0, iv p1, iv p2, iv p3, iv p4, iv p5, iv 3, iv bx0, iv bx1, iv bx2, iv bx3, iv bx4, iv bx5, iv bx6, rv a1, .unset, .unset, .unset, .unset] [(.int 0), (.ref a1)])
          refine own_st (fun _ k => XS.iload X13.here hx rfl (hb hby at_97) rfl k) ?_
          show own_Go p e below _ T13 (mkF m 99 #[iv p0, iv p1, iv p2, iv p3, iv p4, iv p5, iv 3, iv bx0, iv bx1, iv bx2, iv bx3, iv bx4, iv bx5, iv bx6, rv a1, .unset, .unset, .unset, .unset] [(.int bx0), (.int 0), (.ref a1)])
          obtain ⟨T14, h14, X14, e14, W14, V14, st14⟩ := own_stB X13 hx hZ e13 V13_a1 (j := (0 : Int32)) ⟨by decide, by decide⟩ 0 rfl (Nat.le_of_ble_eq_true rfl) (g := (mkF m 99 #[iv p0, iv p1, iv p2, iv p3, iv p4, iv p5, iv 3, iv bx0, iv bx1, iv bx2, iv bx3, iv bx4, iv bx5, iv bx6, rv a1, .unset, .unset, .unset, .unset] [(.int bx0), (.int 0), (.ref a1)])) rfl rfl (hb hby at_99)
          have V14_a1 : Arv Z h14 a1 k_a1 .byte (3 : Int32) [(.int bx0.toInt8.toInt32), (.int 0), (.int 0)] (.int 0) := V14
          have O14 := O13.wr W14 g_a1
          have Z14 : n0 ≤ h14.size := by rw [W14.size]; exact Z13
          clear O13 Z13 V13_a1 W14
          have N14 := Fr.snoc X14 N0 g_a1
          clear X13 e13
          refine own_st st14 ?_
          clear st14
          show own_Go p e below _ T14 (mkF m 100 #[iv p0, iv p1, iv p2, iv p3, iv p4, iv p5, iv 3, iv bx0, iv bx1, iv bx2, iv bx3, iv bx4, iv bx5, iv bx6, rv a1, .unset, .unset, .unset, .unset] [])
          refine own_st (fun _ k => XS.iload X14.here hx rfl (hb hby at_100) rfl k) ?_
          show own_Go p e below _ T14 (mkF m 102 #[iv p0, iv p1, iv p2, iv p3, iv p4, iv p5, iv 3, iv bx0, iv bx1, iv bx2, iv bx3, iv bx4, iv bx5, iv bx6, rv a1, .unset, .unset, .unset, .unset] [(.int 3)])
          refine own_st (fun _ k => XT.iconstV X14.here hx rfl (1 : Int32) (hb hby at_102) (by decide) k) ?_
          show own_Go p e below _ T14 (mkF m 103 #[iv p0, iv p1, iv p2, iv p3, iv p4, iv p5, iv 3, iv bx0, iv bx1, iv bx2, iv bx3, iv bx4, iv bx5, iv bx6, rv a1, .unset, .unset, .unset, .unset] [(.int 1), (.int 3)])
          refine own_st (fun _ k => XS.icmpNo X14.here hx rfl (hb hby at_103) rfl (XT.ii_le_f (by decide)) k) ?_
          show own_Go p e below _ T14 (mkF m 106 #[iv p0, iv p1, iv p2, iv p3, iv p4, iv p5, iv 3, iv bx0, iv bx1, iv bx2, iv bx3, iv bx4, iv bx5, iv bx6, rv a1, .unset, .unset, .unset, .unset] [])
          refine own_st (fun _ k => XS.aload X14.here hx rfl (hb hby at_106) rfl rfl k) ?_
          show own_Go p e below _ T14 (mkF m 108 #[iv p0, iv p1, iv p2, iv p3, iv p4, iv p5, iv 3, iv bx0, iv bx1, iv bx2, iv bx3, iv bx4, iv bx5, iv bx6, rv a1, .unset, .unset, .unset, .unset] [(.ref a1)])
          refine own_st (fun _ k => XT.iconstV X14.here hx rfl (1 : Int32) (hb hby at_108) (by decide) k) ?_
          show own_Go p e below _ T14 (mkF m 109 #[iv p0, iv p1, iv p2, iv p3, iv p4, iv p5, iv 3, iv bx0, iv bx1, iv bx2, iv bx3, iv bx4, iv bx5, iv bx6, rv a1, .unset, .unset, .unset, .unset] [(.int 1), (.ref a1)])
          refine own_st (fun _ k => XS.iload X14.here hx rfl (hb hby at_109) rfl k) ?_
          show own_Go p e below _ T14 (mkF m 111 #[iv p0, iv p1, iv p2, iv p3, iv p4, iv p5, iv 3, iv bx0, iv bx1, iv bx2, iv bx3, iv bx4, iv bx5, iv bx6, rv a1, .unset, .unset, .unset, .unset] [(.int bx1), (.int 1), (.ref a1)])
          obtain ⟨T15, h15, X15, e15, W15, V15, st15⟩ := own_stB X14 hx hZ e14 V14_a1 (j := (1 : Int32)) ⟨by decide, by decide⟩ 1 rfl (Nat.le_of_ble_eq_true rfl) (g := (mkF m 111 #[iv p0, iv p1, iv p2, iv p3, iv p4, iv p5, iv 3, iv bx0, iv bx1, iv bx2, iv bx3, iv bx4, iv bx5, iv bx6, rv a1, .unset, .unset, .unset, .unset] [(.int bx1), (.int 1), (.ref a1)])) rfl rfl (hb hby at_111)
          have V15_a1 : Arv Z h15 a1 k_a1 .byte (3 : Int32) [(.int bx0.toInt8.toInt32), (.int bx1.toInt8.toInt32), (.int 0)] (.int 0) := V15
          have O15 := O14.wr W15 g_a1
          have Z15 : n0 ≤ h15.size := by rw [W15.size]; exact Z14
          clear O14 Z14 V14_a1 W15
          have N15 := Fr.snoc X15 N14 g_a1
          clear X14 e14
          refine own_st st15 ?_
          clear st15
          show own_Go p e below _ T15 (mkF m 112 #[iv p0, iv p1, iv p2, iv p3, iv p4, iv p5, iv 3, iv bx0, iv bx1, iv bx2, iv bx3, iv bx4, iv bx5, iv bx6, rv a1, .unset, .unset, .unset, .unset] [])
          refine own_st (fun _ k => XS.iload X15.here hx rfl (hb hby at_112) rfl k) ?_
          show own_Go p e below _ T15 (mkF m 114 #[iv p0, iv p1, iv p2, iv p3, iv p4, iv p5, iv 3, iv bx0, iv bx1, iv bx2, iv bx3, iv bx4, iv bx5, iv bx6, rv a1, .unset, .unset, .unset, .unset] [(.int 3)])
          refine own_st (fun _ k => XT.iconstV X15.here hx rfl (2 : Int32) (hb hby at_114) (by decide) k) ?_
          show own_Go p e below _ T15 (mkF m 115 #[iv p0, iv p1, iv p2, iv p3, iv p4, iv p5, iv 3, iv bx0, iv bx1, iv bx2, iv bx3, iv bx4, iv bx5, iv bx6, rv a1, .unset, .unset, .unset, .unset] [(.int 2), (.int 3)])
          refine own_st (fun _ k => XS.icmpNo X15.here hx rfl (hb hby at_115) rfl (XT.ii_le_f (by decide)) k) ?_
          show own_Go p e below _ T15 (mkF m 118 #[iv p0, iv p1, iv p2, iv p3, iv p4, iv p5, iv 3, iv bx0, iv bx1, iv bx2, iv bx3, iv bx4, iv bx5, iv bx6, rv a1, .unset, .unset, .unset, .unset] [])
          refine own_st (fun _ k => XS.aload X15.here hx rfl (hb hby at_118) rfl rfl k) ?_
          show own_Go p e below _ T15 (mkF m 120 #[iv p0, iv p1, iv p2, iv p3, iv p4, iv p5, iv 3, iv bx0, iv bx1, iv bx2, iv bx3, iv bx4, iv bx5, iv bx6, rv a1, .unset, .unset, .unset, .unset] [(.ref a1)])
          refine own_st (fun _ k => XT.iconstV X15.here hx rfl (2 : Int32) (hb hby at_120) (by decide) k) ?_
          show own_Go p e below _ T15 (mkF m 121 #[iv p0, iv p1, iv p2, iv p3, iv p4, iv p5, iv 3, iv bx0, iv bx1, iv bx2, iv bx3, iv bx4, iv bx5, iv bx6, rv a1, .unset, .unset, .unset, .unset] [(.int 2), (.ref a1)])
          refine own_st (fun _ k => XS.iload X15.here hx rfl (hb hby at_121) rfl k) ?_
          show own_Go p e below _ T15 (mkF m 123 #[iv p0, iv p1, iv p2, iv p3, iv p4, iv p5, iv 3, iv bx0, iv bx1, iv bx2, iv bx3, iv bx4, iv bx5, iv bx6, rv a1, .unset, .unset, .unset, .unset] [(.int bx2), (.int 2), (.ref a1)])
          obtain ⟨T16, h16, X16, e16, W16, V16, st16⟩ := own_stB X15 hx hZ e15 V15_a1 (j := (2 : Int32)) ⟨by decide, by decide⟩ 2 rfl (Nat.le_of_ble_eq_true rfl) (g := (mkF m 123 #[iv p0, iv p1, iv p2, iv p3, iv p4, iv p5, iv 3, iv bx0, iv bx1, iv bx2, iv bx3, iv bx4, iv bx5, iv bx6, rv a1, .unset, .unset, .unset, .unset] [(.int bx2), (.int 2), (.ref a1)])) rfl rfl (hb hby at_123)
          have V16_a1 : Arv Z h16 a1 k_a1 .byte (3 : Int32) [(.int bx0.toInt8.toInt32), (.int bx1.toInt8.toInt32), (.int bx2.toInt8.toInt32)] (.int 0) := V16
          have O16 := O15.wr W16 g_a1
          have Z16 : n0 ≤ h16.size := by rw [W16.size]; exact Z15
          clear O15 Z15 V15_a1 W16
          have N16 := Fr.snoc X16 N15 g_a1
          clear X15 e15
          refine own_st st16 ?_
          clear st16
          show own_Go p e below _ T16 (mkF m 124 #[iv p0, iv p1, iv p2, iv p3, iv p4, iv p5, iv 3, iv bx0, iv bx1, iv bx2, iv bx3, iv bx4, iv bx5, iv bx6, rv a1, .unset, .unset, .unset, .unset] [])
          refine own_st (fun _ k => XS.iload X16.here hx rfl (hb hby at_124) rfl k) ?_
          show own_Go p e below _ T16 (mkF m 126 #[iv p0, iv p1, iv p2, iv p3, iv p4, iv p5, iv 3, iv bx0, iv bx1, iv bx2, iv bx3, iv bx4, iv bx5, iv bx6, rv a1, .unset, .unset, .unset, .unset] [(.int 3)])
          refine own_st (fun _ k => XT.iconstV X16.here hx rfl (3 : Int32) (hb hby at_126) (by decide) k) ?_
          show own_Go p e below _ T16 (mkF m 127 #[iv p0, iv p1, iv p2, iv p3, iv p4, iv p5, iv 3, iv bx0, iv bx1, iv bx2, iv bx3, iv bx4, iv bx5, iv bx6, rv a1, .unset, .unset, .unset, .unset] [(.int 3), (.int 3)])
          refine own_st (fun _ k => XS.icmpYes X16.here hx rfl (pc0 := 127) (pc' := 136) rfl (hb hby at_127) rfl (XT.ii_le_t (by decide)) (by decide) (by decide) k) ?_
          show own_Go p e below _ T16 (mkF m 136 #[iv p0, iv p1, iv p2, iv p3, iv p4, iv p5, iv 3, iv bx0, iv bx1, iv bx2, iv bx3, iv bx4, iv bx5, iv bx6, rv a1, .unset, .unset, .unset, .unset] [])
          refine own_st (fun _ k => XS.iload X16.here hx rfl (hb hby at_136) rfl k) ?_
          show own_Go p e below _ T16 (mkF m 138 #[iv p0, iv p1, iv p2, iv p3, iv p4, iv p5, iv 3, iv bx0, iv bx1, iv bx2, iv bx3, iv bx4, iv bx5, iv bx6, rv a1, .unset, .unset, .unset, .unset] [(.int 3)])
          refine own_st (fun _ k => XT.iconstV X16.here hx rfl (4 : Int32) (hb hby at_138) (by decide) k) ?_
          show own_Go p e below _ T16 (mkF m 139 #[iv p0, iv p1, iv p2, iv p3, iv p4, iv p5, iv 3, iv bx0, iv bx1, iv bx2, iv bx3, iv bx4, iv bx5, iv bx6, rv a1, .unset, .unset, .unset, .unset] [(.int 4), (.int 3)])
          refine own_st (fun _ k => XS.icmpYes X16.here hx rfl (pc0 := 139) (pc' := 148) rfl (hb hby at_139) rfl (XT.ii_le_t (by decide)) (by decide) (by decide) k) ?_
          show own_Go p e below _ T16 (mkF m 148 #[iv p0, iv p1, iv p2, iv p3, iv p4, iv p5, iv 3, iv bx0, iv bx1, iv bx2, iv bx3, iv bx4, iv bx5, iv bx6, rv a1, .unset, .unset, .unset, .unset] [])
          refine own_st (fun _ k => XS.iload X16.here hx rfl (hb hby at_148) rfl k) ?_
          show own_Go p e below _ T16 (mkF m 150 #[iv p0, iv p1, iv p2, iv p3, iv p4, iv p5, iv 3, iv bx0, iv bx1, iv bx2, iv bx3, iv bx4, iv bx5, iv bx6, rv a1, .unset, .unset, .unset, .unset] [(.int 3)])
          refine own_st (fun _ k => XT.iconstV X16.here hx rfl (5 : Int32) (hb hby at_150) (by decide) k) ?_
          show own_Go p e below _ T16 (mkF m 151 #[iv p0, iv p1, iv p2, iv p3, iv p4, iv p5, iv 3, iv bx0, iv bx1, iv bx2, iv bx3, iv bx4, iv bx5, iv bx6, rv a1, .unset, .unset, .unset, .unset] [(.int 5), (.int 3)])
          refine own_st (fun _ k => XS.icmpYes X16.here hx rfl (pc0 := 151) (pc' := 160) rfl (hb hby at_151) rfl (XT.ii_le_t (by decide)) (by decide) (by decide) k) ?_
          show own_Go p e below _ T16 (mkF m 160 #[iv p0, iv p1, iv p2, iv p3, iv p4, iv p5, iv 3, iv bx0, iv bx1, iv bx2, iv bx3, iv bx4, iv bx5, iv bx6, rv a1, .unset, .unset, .unset, .unset] [])
          refine own_st (fun _ k => XS.iload X16.here hx rfl (hb hby at_160) rfl k) ?_
          show own_Go p e below _ T16 (mkF m 162 #[iv p0, iv p1, iv p2, iv p3, iv p4, iv p5, iv 3, iv bx0, iv bx1, iv bx2, iv bx3, iv bx4, iv bx5, iv bx6, rv a1, .unset, .unset, .unset, .unset] [(.int 3)])
          refine own_st (fun _ k => XT.bipushV X16.here hx rfl (6 : Int32) (hb hby at_162) (by decide) k) ?_
          show own_Go p e below _ T16 (mkF m 164 #[iv p0, iv p1, iv p2, iv p3, iv p4, iv p5, iv 3, iv bx0, iv bx1, iv bx2, iv bx3, iv bx4, iv bx5, iv bx6, rv a1, .unset, .unset, .unset, .unset] [(.int 6), (.int 3)])
          refine own_st (fun _ k => XS.icmpYes X16.here hx rfl (pc0 := 164) (pc' := 174) rfl (hb hby at_164) rfl (XT.ii_le_t (by decide)) (by decide) (by decide) k) ?_
          show own_Go p e below _ T16 (mkF m 174 #[iv p0, iv p1, iv p2, iv p3, iv p4, iv p5, iv 3, iv bx0, iv bx1, iv bx2, iv bx3, iv bx4, iv bx5, iv bx6, rv a1, .unset, .unset, .unset, .unset] [])
          refine own_st (fun _ k => XS.aload X16.here hx rfl (hb hby at_174) rfl rfl k) ?_
          show own_Go p e below _ T16 (mkF m 176 #[iv p0, iv p1, iv p2, iv p3, iv p4, iv p5, iv 3, iv bx0, iv bx1, iv bx2, iv bx3, iv bx4, iv bx5, iv bx6, rv a1, .unset, .unset, .unset, .unset] [(.ref a1)])
          have VBx := VB.ext O16.2
          obtain ⟨_, _, ⟨T17, L17, k17, n17⟩, -, X17, ⟨Lc17, hQ17, l17, y17, z17⟩, st17⟩ := Jvm.LawKit.callS X16 hx (y := (⟨"com/example/broken_to_found/brokentofound/watch/UrlList", "byteOrderMarkLength", "([B)I"⟩ : MethodName)) hown (mvT hZ (hw _ (List.mem_of_getElem? (i := 1) rfl))) (mvT hZ (hw _ (List.mem_of_getElem? (i := 2) rfl))) (mvT hZ (hw _ (List.mem_of_getElem? (i := 3) rfl))) (mvT hZ (hw _ (List.mem_of_getElem? (i := 4) rfl))) (by decide) (backOf (W := 0) (own_rm_bom l Z a0 hw [] a1 k_a1 (3 : Int32) [(.int bx0.toInt8.toInt32), (.int bx1.toInt8.toInt32), (.int bx2.toInt8.toInt32)] bx0.toInt8.toInt32 bx1.toInt8.toInt32 bx2.toInt8.toInt32 w_B kB h16 n0 Z16 V16_a1 VBx (by decide) rfl rfl rfl (S_B.ext O16.2)) hZ (hw _ (List.mem_of_getElem? (i := 4) rfl)) (hw _ (List.mem_of_getElem? (i := 3) rfl)) (by decide) (by decide)) (g := (mkF m 176 #[iv p0, iv p1, iv p2, iv p3, iv p4, iv p5, iv 3, iv bx0, iv bx1, iv bx2, iv bx3, iv bx4, iv bx5, iv bx6, rv a1, .unset, .unset, .unset, .unset] [(.ref a1)])) rfl (by rw [hml]; rfl) (argsL := [(.ref a1)]) (rest := []) (lenOf own_pd3 rfl) rfl (by show 2 * 0 + _ ≤ _; exact Nat.le_of_eq rfl) (hb hby at_176) (fun _ _ => ⟨rfl, e16, (by decide : 1 + 0 ≤ _), (by decide : 3 + 0 ≤ _)⟩)
          dsimp only [Pt.U, Pt.locs, Pt.cells, Pt.slots] at X17 l17 y17 z17 st17 hQ17
          subst l17 y17 z17
          obtain ⟨rfl, N17, eh17⟩ := hQ17
          have M17 := Fr.app N16 N17
          refine own_st st17 ?_
          clear N16 X16 N17 e16 st17
          show own_Go p e below _ T17 (mkF m 179 #[iv p0, iv p1, iv p2, iv p3, iv p4, iv p5, iv 3, iv bx0, iv bx1, iv bx2, iv bx3, iv bx4, iv bx5, iv bx6, rv a1, .unset, .unset, .unset, .unset] [(.int (own_bom bx0.toInt8.toInt32 bx1.toInt8.toInt32 bx2.toInt8.toInt32))])
          refine own_st (fun _ k => XS.istore X17.here hx rfl (hb hby at_179) rfl (l' := #[iv p0, iv p1, iv p2, iv p3, iv p4, iv p5, iv 3, iv bx0, iv bx1, iv bx2, iv bx3, iv bx4, iv bx5, iv bx6, rv a1, iv (own_bom bx0.toInt8.toInt32 bx1.toInt8.toInt32 bx2.toInt8.toInt32), .unset, .unset, .unset]) rfl k) ?_
          show own_Go p e below _ T17 (mkF m 181 #[iv p0, iv p1, iv p2, iv p3, iv p4, iv p5, iv 3, iv bx0, iv bx1, iv bx2, iv bx3, iv bx4, iv bx5, iv bx6, rv a1, iv (own_bom bx0.toInt8.toInt32 bx1.toInt8.toInt32 bx2.toInt8.toInt32), .unset, .unset, .unset] [])
          refine own_st (fun _ k => XS.iload X17.here hx rfl (hb hby at_181) rfl k) ?_
          show own_Go p e below _ T17 (mkF m 183 #[iv p0, iv p1, iv p2, iv p3, iv p4, iv p5, iv 3, iv bx0, iv bx1, iv bx2, iv bx3, iv bx4, iv bx5, iv bx6, rv a1, iv (own_bom bx0.toInt8.toInt32 bx1.toInt8.toInt32 bx2.toInt8.toInt32), .unset, .unset, .unset] [(.int 3)])
          refine own_st (fun _ k => XT.iconstV X17.here hx rfl (3 : Int32) (hb hby at_183) (by decide) k) ?_
          show own_Go p e below _ T17 (mkF m 184 #[iv p0, iv p1, iv p2, iv p3, iv p4, iv p5, iv 3, iv bx0, iv bx1, iv bx2, iv bx3, iv bx4, iv bx5, iv bx6, rv a1, iv (own_bom bx0.toInt8.toInt32 bx1.toInt8.toInt32 bx2.toInt8.toInt32), .unset, .unset, .unset] [(.int 3), (.int 3)])
          have KE : ∀ mk ex : Int32, ex = (own_bom bx0.toInt8.toInt32 bx1.toInt8.toInt32 bx2.toInt8.toInt32) → own_Go p e below (own_K s (own_Q_law Z p0 p1 p2 p3 p4 p5 w_B kB h0 n0) 16 128) T17 (mkF m 227 #[iv p0, iv p1, iv p2, iv p3, iv p4, iv p5, iv 3, iv bx0, iv bx1, iv bx2, iv bx3, iv bx4, iv bx5, iv bx6, rv a1, iv (own_bom bx0.toInt8.toInt32 bx1.toInt8.toInt32 bx2.toInt8.toInt32), iv mk, iv ex, .unset] []) := by
            intro mk ex hex
            show own_Go p e below _ T17 (mkF m 227 #[iv p0, iv p1, iv p2, iv p3, iv p4, iv p5, iv 3, iv bx0, iv bx1, iv bx2, iv bx3, iv bx4, iv bx5, iv bx6, rv a1, iv (own_bom bx0.toInt8.toInt32 bx1.toInt8.toInt32 bx2.toInt8.toInt32), iv mk, iv ex, .unset] [])
            refine own_st (fun _ k => XS.aload X17.here hx rfl (hb hby at_227) rfl rfl k) ?_
            show own_Go p e below _ T17 (mkF m 229 #[iv p0, iv p1, iv p2, iv p3, iv p4, iv p5, iv 3, iv bx0, iv bx1, iv bx2, iv bx3, iv bx4, iv bx5, iv bx6, rv a1, iv (own_bom bx0.toInt8.toInt32 bx1.toInt8.toInt32 bx2.toInt8.toInt32), iv mk, iv ex, .unset] [(.ref a1)])
            refine own_st (fun _ k => own_len X17 hx hZ eh17 V16_a1 rfl rfl (hb hby at_229) k) ?_
            show own_Go p e below _ T17 (mkF m 230 #[iv p0, iv p1, iv p2, iv p3, iv p4, iv p5, iv 3, iv bx0, iv bx1, iv bx2, iv bx3, iv bx4, iv bx5, iv bx6, rv a1, iv (own_bom bx0.toInt8.toInt32 bx1.toInt8.toInt32 bx2.toInt8.toInt32), iv mk, iv ex, .unset] [(.int 3)])
            refine own_st (fun _ k => XS.iload X17.here hx rfl (hb hby at_230) rfl k) ?_
            show own_Go p e below _ T17 (mkF m 232 #[iv p0, iv p1, iv p2, iv p3, iv p4, iv p5, iv 3, iv bx0, iv bx1, iv bx2, iv bx3, iv bx4, iv bx5, iv bx6, rv a1, iv (own_bom bx0.toInt8.toInt32 bx1.toInt8.toInt32 bx2.toInt8.toInt32), iv mk, iv ex, .unset] [(.int 3), (.int 3)])
            refine own_st (fun _ k => XS.icmpNo X17.here hx rfl (hb hby at_232) rfl (XT.ii_ne_f rfl) k) ?_
            show own_Go p e below _ T17 (mkF m 235 #[iv p0, iv p1, iv p2, iv p3, iv p4, iv p5, iv 3, iv bx0, iv bx1, iv bx2, iv bx3, iv bx4, iv bx5, iv bx6, rv a1, iv (own_bom bx0.toInt8.toInt32 bx1.toInt8.toInt32 bx2.toInt8.toInt32), iv mk, iv ex, .unset] [])
            refine own_st (fun _ k => XS.iload X17.here hx rfl (hb hby at_235) rfl k) ?_
            show own_Go p e below _ T17 (mkF m 237 #[iv p0, iv p1, iv p2, iv p3, iv p4, iv p5, iv 3, iv bx0, iv bx1, iv bx2, iv bx3, iv bx4, iv bx5, iv bx6, rv a1, iv (own_bom bx0.toInt8.toInt32 bx1.toInt8.toInt32 bx2.toInt8.toInt32), iv mk, iv ex, .unset] [(.int 3)])
            refine own_st (fun _ k => XS.ifNo X17.here hx rfl (hb hby at_237) rfl (XT.i0_le_f (by decide)) k) ?_
            show own_Go p e below _ T17 (mkF m 240 #[iv p0, iv p1, iv p2, iv p3, iv p4, iv p5, iv 3, iv bx0, iv bx1, iv bx2, iv bx3, iv bx4, iv bx5, iv bx6, rv a1, iv (own_bom bx0.toInt8.toInt32 bx1.toInt8.toInt32 bx2.toInt8.toInt32), iv mk, iv ex, .unset] [])
            refine own_st (fun _ k => XS.aload X17.here hx rfl (hb hby at_240) rfl rfl k) ?_
            show own_Go p e below _ T17 (mkF m 242 #[iv p0, iv p1, iv p2, iv p3, iv p4, iv p5, iv 3, iv bx0, iv bx1, iv bx2, iv bx3, iv bx4, iv bx5, iv bx6, rv a1, iv (own_bom bx0.toInt8.toInt32 bx1.toInt8.toInt32 bx2.toInt8.toInt32), iv mk, iv ex, .unset] [(.ref a1)])
            refine own_st (fun _ k => XT.iconstV X17.here hx rfl (0 : Int32) (hb hby at_242) (by decide) k) ?_
            show own_Go p e below _ T17 (mkF m 243 #[iv p0, iv p1, iv p2, iv p3, iv p4, iv p5, iv 3, iv bx0, iv bx1, iv bx2, iv bx3, iv bx4, iv bx5, iv bx6, rv a1, iv (own_bom bx0.toInt8.toInt32 bx1.toInt8.toInt32 bx2.toInt8.toInt32), iv mk, iv ex, .unset] [(.int 0), (.ref a1)])
            refine own_st (fun _ k => own_ldB X17 hx hZ eh17 V16_a1 ⟨by decide, by decide⟩ (v := (.int bx0.toInt8.toInt32)) rfl rfl rfl (hb hby at_243) k) ?_
            show own_Go p e below _ T17 (mkF m 244 #[iv p0, iv p1, iv p2, iv p3, iv p4, iv p5, iv 3, iv bx0, iv bx1, iv bx2, iv bx3, iv bx4, iv bx5, iv bx6, rv a1, iv (own_bom bx0.toInt8.toInt32 bx1.toInt8.toInt32 bx2.toInt8.toInt32), iv mk, iv ex, .unset] [(.int bx0.toInt8.toInt32)])
            refine own_st (fun _ k => XS.iload X17.here hx rfl (hb hby at_244) rfl k) ?_
            show own_Go p e below _ T17 (mkF m 246 #[iv p0, iv p1, iv p2, iv p3, iv p4, iv p5, iv 3, iv bx0, iv bx1, iv bx2, iv bx3, iv bx4, iv bx5, iv bx6, rv a1, iv (own_bom bx0.toInt8.toInt32 bx1.toInt8.toInt32 bx2.toInt8.toInt32), iv mk, iv ex, .unset] [(.int bx0), (.int bx0.toInt8.toInt32)])
            refine own_st (fun _ k => XS.icmpNo X17.here hx rfl (hb hby at_246) rfl (XT.ii_ne_f ok0) k) ?_
            show own_Go p e below _ T17 (mkF m 249 #[iv p0, iv p1, iv p2, iv p3, iv p4, iv p5, iv 3, iv bx0, iv bx1, iv bx2, iv bx3, iv bx4, iv bx5, iv bx6, rv a1, iv (own_bom bx0.toInt8.toInt32 bx1.toInt8.toInt32 bx2.toInt8.toInt32), iv mk, iv ex, .unset] [])
            refine own_st (fun _ k => XS.iload X17.here hx rfl (hb hby at_249) rfl k) ?_
            show own_Go p e below _ T17 (mkF m 251 #[iv p0, iv p1, iv p2, iv p3, iv p4, iv p5, iv 3, iv bx0, iv bx1, iv bx2, iv bx3, iv bx4, iv bx5, iv bx6, rv a1, iv (own_bom bx0.toInt8.toInt32 bx1.toInt8.toInt32 bx2.toInt8.toInt32), iv mk, iv ex, .unset] [(.int 3)])
            refine own_st (fun _ k => XT.iconstV X17.here hx rfl (1 : Int32) (hb hby at_251) (by decide) k) ?_
            show own_Go p e below _ T17 (mkF m 252 #[iv p0, iv p1, iv p2, iv p3, iv p4, iv p5, iv 3, iv bx0, iv bx1, iv bx2, iv bx3, iv bx4, iv bx5, iv bx6, rv a1, iv (own_bom bx0.toInt8.toInt32 bx1.toInt8.toInt32 bx2.toInt8.toInt32), iv mk, iv ex, .unset] [(.int 1), (.int 3)])
            refine own_st (fun _ k => XS.icmpNo X17.here hx rfl (hb hby at_252) rfl (XT.ii_le_f (by decide)) k) ?_
            show own_Go p e below _ T17 (mkF m 255 #[iv p0, iv p1, iv p2, iv p3, iv p4, iv p5, iv 3, iv bx0, iv bx1, iv bx2, iv bx3, iv bx4, iv bx5, iv bx6, rv a1, iv (own_bom bx0.toInt8.toInt32 bx1.toInt8.toInt32 bx2.toInt8.toInt32), iv mk, iv ex, .unset] [])
            refine own_st (fun _ k => XS.aload X17.here hx rfl (hb hby at_255) rfl rfl k) ?_
            show own_Go p e below _ T17 (mkF m 257 #[iv p0, iv p1, iv p2, iv p3, iv p4, iv p5, iv 3, iv bx0, iv bx1, iv bx2, iv bx3, iv bx4, iv bx5, iv bx6, rv a1, iv (own_bom bx0.toInt8.toInt32 bx1.toInt8.toInt32 bx2.toInt8.toInt32), iv mk, iv ex, .unset] [(.ref a1)])
            refine own_st (fun _ k => XT.iconstV X17.here hx rfl (1 : Int32) (hb hby at_257) (by decide) k) ?_
            show own_Go p e below _ T17 (mkF m 258 #[iv p0, iv p1, iv p2, iv p3, iv p4, iv p5, iv 3, iv bx0, iv bx1, iv bx2, iv bx3, iv bx4, iv bx5, iv bx6, rv a1, iv (own_bom bx0.toInt8.toInt32 bx1.toInt8.toInt32 bx2.toInt8.toInt32), iv mk, iv ex, .unset] [(.int 1), (.ref a1)])
            refine own_st (fun _ k => own_ldB X17 hx hZ eh17 V16_a1 ⟨by decide, by decide⟩ (v := (.int bx1.toInt8.toInt32)) rfl rfl rfl (hb hby at_258) k) ?_
            show own_Go p e below _ T17 (mkF m 259 #[iv p0, iv p1, iv p2, iv p3, iv p4, iv p5, iv 3, iv bx0, iv bx1, iv bx2, iv bx3, iv bx4, iv bx5, iv bx6, rv a1, iv (own_bom bx0.toInt8.toInt32 bx1.toInt8.toInt32 bx2.toInt8.toInt32), iv mk, iv ex, .unset] [(.int bx1.toInt8.toInt32)])
            refine own_st (fun _ k => XS.iload X17.here hx rfl (hb hby at_259) rfl k) ?_
            show own_Go p e below _ T17 (mkF m 261 #[iv p0, iv p1, iv p2, iv p3, iv p4, iv p5, iv 3, iv bx0, iv bx1, iv bx2, iv bx3, iv bx4, iv bx5, iv bx6, rv a1, iv (own_bom bx0.toInt8.toInt32 bx1.toInt8.toInt32 bx2.toInt8.toInt32), iv mk, iv ex, .unset] [(.int bx1), (.int bx1.toInt8.toInt32)])
            refine own_st (fun _ k => XS.icmpNo X17.here hx rfl (hb hby at_261) rfl (XT.ii_ne_f ok1) k) ?_
            show own_Go p e below _ T17 (mkF m 264 #[iv p0, iv p1, iv p2, iv p3, iv p4, iv p5, iv 3, iv bx0, iv bx1, iv bx2, iv bx3, iv bx4, iv bx5, iv bx6, rv a1, iv (own_bom bx0.toInt8.toInt32 bx1.toInt8.toInt32 bx2.toInt8.toInt32), iv mk, iv ex, .unset] [])
            refine own_st (fun _ k => XS.iload X17.here hx rfl (hb hby at_264) rfl k) ?_
            show own_Go p e below _ T17 (mkF m 266 #[iv p0, iv p1, iv p2, iv p3, iv p4, iv p5, iv 3, iv bx0, iv bx1, iv bx2, iv bx3, iv bx4, iv bx5, iv bx6, rv a1, iv (own_bom bx0.toInt8.toInt32 bx1.toInt8.toInt32 bx2.toInt8.toInt32), iv mk, iv ex, .unset] [(.int 3)])
            refine own_st (fun _ k => XT.iconstV X17.here hx rfl (2 : Int32) (hb hby at_266) (by decide) k) ?_
            show own_Go p e below _ T17 (mkF m 267 #[iv p0, iv p1, iv p2, iv p3, iv p4, iv p5, iv 3, iv bx0, iv bx1, iv bx2, iv bx3, iv bx4, iv bx5, iv bx6, rv a1, iv (own_bom bx0.toInt8.toInt32 bx1.toInt8.toInt32 bx2.toInt8.toInt32), iv mk, iv ex, .unset] [(.int 2), (.int 3)])
            refine own_st (fun _ k => XS.icmpNo X17.here hx rfl (hb hby at_267) rfl (XT.ii_le_f (by decide)) k) ?_
            show own_Go p e below _ T17 (mkF m 270 #[iv p0, iv p1, iv p2, iv p3, iv p4, iv p5, iv 3, iv bx0, iv bx1, iv bx2, iv bx3, iv bx4, iv bx5, iv bx6, rv a1, iv (own_bom bx0.toInt8.toInt32 bx1.toInt8.toInt32 bx2.toInt8.toInt32), iv mk, iv ex, .unset] [])
            refine own_st (fun _ k => XS.aload X17.here hx rfl (hb hby at_270) rfl rfl k) ?_
            show own_Go p e below _ T17 (mkF m 272 #[iv p0, iv p1, iv p2, iv p3, iv p4, iv p5, iv 3, iv bx0, iv bx1, iv bx2, iv bx3, iv bx4, iv bx5, iv bx6, rv a1, iv (own_bom bx0.toInt8.toInt32 bx1.toInt8.toInt32 bx2.toInt8.toInt32), iv mk, iv ex, .unset] [(.ref a1)])
            refine own_st (fun _ k => XT.iconstV X17.here hx rfl (2 : Int32) (hb hby at_272) (by decide) k) ?_
            show own_Go p e below _ T17 (mkF m 273 #[iv p0, iv p1, iv p2, iv p3, iv p4, iv p5, iv 3, iv bx0, iv bx1, iv bx2, iv bx3, iv bx4, iv bx5, iv bx6, rv a1, iv (own_bom bx0.toInt8.toInt32 bx1.toInt8.toInt32 bx2.toInt8.toInt32), iv mk, iv ex, .unset] [(.int 2), (.ref a1)])
            refine own_st (fun _ k => own_ldB X17 hx hZ eh17 V16_a1 ⟨by decide, by decide⟩ (v := (.int bx2.toInt8.toInt32)) rfl rfl rfl (hb hby at_273) k) ?_
            show own_Go p e below _ T17 (mkF m 274 #[iv p0, iv p1, iv p2, iv p3, iv p4, iv p5, iv 3, iv bx0, iv bx1, iv bx2, iv bx3, iv bx4, iv bx5, iv bx6, rv a1, iv (own_bom bx0.toInt8.toInt32 bx1.toInt8.toInt32 bx2.toInt8.toInt32), iv mk, iv ex, .unset] [(.int bx2.toInt8.toInt32)])
            refine own_st (fun _ k => XS.iload X17.here hx rfl (hb hby at_274) rfl k) ?_
            show own_Go p e below _ T17 (mkF m 276 #[iv p0, iv p1, iv p2, iv p3, iv p4, iv p5, iv 3, iv bx0, iv bx1, iv bx2, iv bx3, iv bx4, iv bx5, iv bx6, rv a1, iv (own_bom bx0.toInt8.toInt32 bx1.toInt8.toInt32 bx2.toInt8.toInt32), iv mk, iv ex, .unset] [(.int bx2), (.int bx2.toInt8.toInt32)])
            refine own_st (fun _ k => XS.icmpNo X17.here hx rfl (hb hby at_276) rfl (XT.ii_ne_f ok2) k) ?_
            show own_Go p e below _ T17 (mkF m 279 #[iv p0, iv p1, iv p2, iv p3, iv p4, iv p5, iv 3, iv bx0, iv bx1, iv bx2, iv bx3, iv bx4, iv bx5, iv bx6, rv a1, iv (own_bom bx0.toInt8.toInt32 bx1.toInt8.toInt32 bx2.toInt8.toInt32), iv mk, iv ex, .unset] [])
            refine own_st (fun _ k => XS.iload X17.here hx rfl (hb hby at_279) rfl k) ?_
            show own_Go p e below _ T17 (mkF m 281 #[iv p0, iv p1, iv p2, iv p3, iv p4, iv p5, iv 3, iv bx0, iv bx1, iv bx2, iv bx3, iv bx4, iv bx5, iv bx6, rv a1, iv (own_bom bx0.toInt8.toInt32 bx1.toInt8.toInt32 bx2.toInt8.toInt32), iv mk, iv ex, .unset] [(.int 3)])
            refine own_st (fun _ k => XT.iconstV X17.here hx rfl (3 : Int32) (hb hby at_281) (by decide) k) ?_
            show own_Go p e below _ T17 (mkF m 282 #[iv p0, iv p1, iv p2, iv p3, iv p4, iv p5, iv 3, iv bx0, iv bx1, iv bx2, iv bx3, iv bx4, iv bx5, iv bx6, rv a1, iv (own_bom bx0.toInt8.toInt32 bx1.toInt8.toInt32 bx2.toInt8.toInt32), iv mk, iv ex, .unset] [(.int 3), (.int 3)])
            refine own_st (fun _ k => XS.icmpYes X17.here hx rfl (pc0 := 282) (pc' := 294) rfl (hb hby at_282) rfl (XT.ii_le_t (by decide)) (by decide) (by decide) k) ?_
            show own_Go p e below _ T17 (mkF m 294 #[iv p0, iv p1, iv p2, iv p3, iv p4, iv p5, iv 3, iv bx0, iv bx1, iv bx2, iv bx3, iv bx4, iv bx5, iv bx6, rv a1, iv (own_bom bx0.toInt8.toInt32 bx1.toInt8.toInt32 bx2.toInt8.toInt32), iv mk, iv ex, .unset] [])
            refine own_st (fun _ k => XT.iconstV X17.here hx rfl (1 : Int32) (hb hby at_294) (by decide) k) ?_
            show own_Go p e below _ T17 (mkF m 295 #[iv p0, iv p1, iv p2, iv p3, iv p4, iv p5, iv 3, iv bx0, iv bx1, iv bx2, iv bx3, iv bx4, iv bx5, iv bx6, rv a1, iv (own_bom bx0.toInt8.toInt32 bx1.toInt8.toInt32 bx2.toInt8.toInt32), iv mk, iv ex, .unset] [(.int 1)])
            refine own_st (fun _ k => XS.goto X17.here hx rfl (pc0 := 295) (pc' := 299) rfl (hb hby at_295) (by decide) (by decide) k) ?_
            show own_Go p e below _ T17 (mkF m 299 #[iv p0, iv p1, iv p2, iv p3, iv p4, iv p5, iv 3, iv bx0, iv bx1, iv bx2, iv bx3, iv bx4, iv bx5, iv bx6, rv a1, iv (own_bom bx0.toInt8.toInt32 bx1.toInt8.toInt32 bx2.toInt8.toInt32), iv mk, iv ex, .unset] [(.int 1)])
            refine own_st (fun _ k => XS.istore X17.here hx rfl (hb hby at_299) rfl (l' := #[iv p0, iv p1, iv p2, iv p3, iv p4, iv p5, iv 3, iv bx0, iv bx1, iv bx2, iv bx3, iv bx4, iv bx5, iv bx6, rv a1, iv (own_bom bx0.toInt8.toInt32 bx1.toInt8.toInt32 bx2.toInt8.toInt32), iv mk, iv ex, iv 1]) rfl k) ?_
            show own_Go p e below _ T17 (mkF m 301 #[iv p0, iv p1, iv p2, iv p3, iv p4, iv p5, iv 3, iv bx0, iv bx1, iv bx2, iv bx3, iv bx4, iv bx5, iv bx6, rv a1, iv (own_bom bx0.toInt8.toInt32 bx1.toInt8.toInt32 bx2.toInt8.toInt32), iv mk, iv ex, iv 1] [])
            refine own_st (fun _ k => XS.iload X17.here hx rfl (hb hby at_301) rfl k) ?_
            show own_Go p e below _ T17 (mkF m 303 #[iv p0, iv p1, iv p2, iv p3, iv p4, iv p5, iv 3, iv bx0, iv bx1, iv bx2, iv bx3, iv bx4, iv bx5, iv bx6, rv a1, iv (own_bom bx0.toInt8.toInt32 bx1.toInt8.toInt32 bx2.toInt8.toInt32), iv mk, iv ex, iv 1] [(.int (own_bom bx0.toInt8.toInt32 bx1.toInt8.toInt32 bx2.toInt8.toInt32))])
            refine own_st (fun _ k => XS.iload X17.here hx rfl (hb hby at_303) rfl k) ?_
            show own_Go p e below _ T17 (mkF m 305 #[iv p0, iv p1, iv p2, iv p3, iv p4, iv p5, iv 3, iv bx0, iv bx1, iv bx2, iv bx3, iv bx4, iv bx5, iv bx6, rv a1, iv (own_bom bx0.toInt8.toInt32 bx1.toInt8.toInt32 bx2.toInt8.toInt32), iv mk, iv ex, iv 1] [(.int ex), (.int (own_bom bx0.toInt8.toInt32 bx1.toInt8.toInt32 bx2.toInt8.toInt32))])
            refine own_st (fun _ k => XS.icmpNo X17.here hx rfl (hb hby at_305) rfl (XT.ii_ne_f hex.symm) k) ?_
            show own_Go p e below _ T17 (mkF m 308 #[iv p0, iv p1, iv p2, iv p3, iv p4, iv p5, iv 3, iv bx0, iv bx1, iv bx2, iv bx3, iv bx4, iv bx5, iv bx6, rv a1, iv (own_bom bx0.toInt8.toInt32 bx1.toInt8.toInt32 bx2.toInt8.toInt32), iv mk, iv ex, iv 1] [])
            refine own_st (fun _ k => XS.iload X17.here hx rfl (hb hby at_308) rfl k) ?_
            show own_Go p e below _ T17 (mkF m 310 #[iv p0, iv p1, iv p2, iv p3, iv p4, iv p5, iv 3, iv bx0, iv bx1, iv bx2, iv bx3, iv bx4, iv bx5, iv bx6, rv a1, iv (own_bom bx0.toInt8.toInt32 bx1.toInt8.toInt32 bx2.toInt8.toInt32), iv mk, iv ex, iv 1] [(.int 1)])
            refine own_st (fun _ k => XS.ifNo X17.here hx rfl (hb hby at_310) rfl (XT.i0_eq_f (by decide)) k) ?_
            show own_Go p e below _ T17 (mkF m 313 #[iv p0, iv p1, iv p2, iv p3, iv p4, iv p5, iv 3, iv bx0, iv bx1, iv bx2, iv bx3, iv bx4, iv bx5, iv bx6, rv a1, iv (own_bom bx0.toInt8.toInt32 bx1.toInt8.toInt32 bx2.toInt8.toInt32), iv mk, iv ex, iv 1] [])
            refine own_st (fun _ k => XT.iconstV X17.here hx rfl (1 : Int32) (hb hby at_313) (by decide) k) ?_
            show own_Go p e below _ T17 (mkF m 314 #[iv p0, iv p1, iv p2, iv p3, iv p4, iv p5, iv 3, iv bx0, iv bx1, iv bx2, iv bx3, iv bx4, iv bx5, iv bx6, rv a1, iv (own_bom bx0.toInt8.toInt32 bx1.toInt8.toInt32 bx2.toInt8.toInt32), iv mk, iv ex, iv 1] [(.int 1)])
            refine own_st (fun _ k => XS.goto X17.here hx rfl (pc0 := 314) (pc' := 318) rfl (hb hby at_314) (by decide) (by decide) k) ?_
            show own_Go p e below _ T17 (mkF m 318 #[iv p0, iv p1, iv p2, iv p3, iv p4, iv p5, iv 3, iv bx0, iv bx1, iv bx2, iv bx3, iv bx4, iv bx5, iv bx6, rv a1, iv (own_bom bx0.toInt8.toInt32 bx1.toInt8.toInt32 bx2.toInt8.toInt32), iv mk, iv ex, iv 1] [(.int 1)])
            refine own_retN X17 hx Bd.notSynchronized (t := .boolean) Bd.returns (by simp) (hb hby at_318) (by decide) (by decide) ?_
            rw [eh17]
            exact ⟨rfl, M17⟩
          refine own_st (fun _ k => XS.icmpNo X17.here hx rfl (hb hby at_184) rfl (XT.ii_lt_f (by decide)) k) ?_
          show own_Go p e below _ T17 (mkF m 187 #[iv p0, iv p1, iv p2, iv p3, iv p4, iv p5, iv 3, iv bx0, iv bx1, iv bx2, iv bx3, iv bx4, iv bx5, iv bx6, rv a1, iv (own_bom bx0.toInt8.toInt32 bx1.toInt8.toInt32 bx2.toInt8.toInt32), .unset, .unset, .unset] [])
          refine own_st (fun _ k => XS.iload X17.here hx rfl (hb hby at_187) rfl k) ?_
          show own_Go p e below _ T17 (mkF m 189 #[iv p0, iv p1, iv p2, iv p3, iv p4, iv p5, iv 3, iv bx0, iv bx1, iv bx2, iv bx3, iv bx4, iv bx5, iv bx6, rv a1, iv (own_bom bx0.toInt8.toInt32 bx1.toInt8.toInt32 bx2.toInt8.toInt32), .unset, .unset, .unset] [(.int bx0)])
          refine own_st (fun _ k => XT.bipushV X17.here hx rfl (-17 : Int32) (hb hby at_189) (by decide) k) ?_
          show own_Go p e below _ T17 (mkF m 191 #[iv p0, iv p1, iv p2, iv p3, iv p4, iv p5, iv 3, iv bx0, iv bx1, iv bx2, iv bx3, iv bx4, iv bx5, iv bx6, rv a1, iv (own_bom bx0.toInt8.toInt32 bx1.toInt8.toInt32 bx2.toInt8.toInt32), .unset, .unset, .unset] [(.int (-17)), (.int bx0)])
          by_cases cm0 : bx0 = (-17 : Int32)
          · refine own_st (fun _ k => XS.icmpNo X17.here hx rfl (hb hby at_191) rfl (XT.ii_ne_f cm0) k) ?_
            show own_Go p e below _ T17 (mkF m 194 #[iv p0, iv p1, iv p2, iv p3, iv p4, iv p5, iv 3, iv bx0, iv bx1, iv bx2, iv bx3, iv bx4, iv bx5, iv bx6, rv a1, iv (own_bom bx0.toInt8.toInt32 bx1.toInt8.toInt32 bx2.toInt8.toInt32), .unset, .unset, .unset] [])
            refine own_st (fun _ k => XS.iload X17.here hx rfl (hb hby at_194) rfl k) ?_
            show own_Go p e below _ T17 (mkF m 196 #[iv p0, iv p1, iv p2, iv p3, iv p4, iv p5, iv 3, iv bx0, iv bx1, iv bx2, iv bx3, iv bx4, iv bx5, iv bx6, rv a1, iv (own_bom bx0.toInt8.toInt32 bx1.toInt8.toInt32 bx2.toInt8.toInt32), .unset, .unset, .unset] [(.int bx1)])
            refine own_st (fun _ k => XT.bipushV X17.here hx rfl (-69 : Int32) (hb hby at_196) (by decide) k) ?_
            show own_Go p e below _ T17 (mkF m 198 #[iv p0, iv p1, iv p2, iv p3, iv p4, iv p5, iv 3, iv bx0, iv bx1, iv bx2, iv bx3, iv bx4, iv bx5, iv bx6, rv a1, iv (own_bom bx0.toInt8.toInt32 bx1.toInt8.toInt32 bx2.toInt8.toInt32), .unset, .unset, .unset] [(.int (-69)), (.int bx1)])
            by_cases cm1 : bx1 = (-69 : Int32)
            · refine own_st (fun _ k => XS.icmpNo X17.here hx rfl (hb hby at_198) rfl (XT.ii_ne_f cm1) k) ?_
              show own_Go p e below _ T17 (mkF m 201 #[iv p0, iv p1, iv p2, iv p3, iv p4, iv p5, iv 3, iv bx0, iv bx1, iv bx2, iv bx3, iv bx4, iv bx5, iv bx6, rv a1, iv (own_bom bx0.toInt8.toInt32 bx1.toInt8.toInt32 bx2.toInt8.toInt32), .unset, .unset, .unset] [])
              refine own_st (fun _ k => XS.iload X17.here hx rfl (hb hby at_201) rfl k) ?_
              show own_Go p e below _ T17 (mkF m 203 #[iv p0, iv p1, iv p2, iv p3, iv p4, iv p5, iv 3, iv bx0, iv bx1, iv bx2, iv bx3, iv bx4, iv bx5, iv bx6, rv a1, iv (own_bom bx0.toInt8.toInt32 bx1.toInt8.toInt32 bx2.toInt8.toInt32), .unset, .unset, .unset] [(.int bx2)])
              refine own_st (fun _ k => XT.bipushV X17.here hx rfl (-65 : Int32) (hb hby at_203) (by decide) k) ?_
              show own_Go p e below _ T17 (mkF m 205 #[iv p0, iv p1, iv p2, iv p3, iv p4, iv p5, iv 3, iv bx0, iv bx1, iv bx2, iv bx3, iv bx4, iv bx5, iv bx6, rv a1, iv (own_bom bx0.toInt8.toInt32 bx1.toInt8.toInt32 bx2.toInt8.toInt32), .unset, .unset, .unset] [(.int (-65)), (.int bx2)])
              by_cases cm2 : bx2 = (-65 : Int32)
              · refine own_st (fun _ k => XS.icmpNo X17.here hx rfl (hb hby at_205) rfl (XT.ii_ne_f cm2) k) ?_
                show own_Go p e below _ T17 (mkF m 208 #[iv p0, iv p1, iv p2, iv p3, iv p4, iv p5, iv 3, iv bx0, iv bx1, iv bx2, iv bx3, iv bx4, iv bx5, iv bx6, rv a1, iv (own_bom bx0.toInt8.toInt32 bx1.toInt8.toInt32 bx2.toInt8.toInt32), .unset, .unset, .unset] [])
                refine own_st (fun _ k => XT.iconstV X17.here hx rfl (1 : Int32) (hb hby at_208) (by decide) k) ?_
                show own_Go p e below _ T17 (mkF m 209 #[iv p0, iv p1, iv p2, iv p3, iv p4, iv p5, iv 3, iv bx0, iv bx1, iv bx2, iv bx3, iv bx4, iv bx5, iv bx6, rv a1, iv (own_bom bx0.toInt8.toInt32 bx1.toInt8.toInt32 bx2.toInt8.toInt32), .unset, .unset, .unset] [(.int 1)])
                refine own_st (fun _ k => XS.goto X17.here hx rfl (pc0 := 209) (pc' := 213) rfl (hb hby at_209) (by decide) (by decide) k) ?_
                show own_Go p e below _ T17 (mkF m 213 #[iv p0, iv p1, iv p2, iv p3, iv p4, iv p5, iv 3, iv bx0, iv bx1, iv bx2, iv bx3, iv bx4, iv bx5, iv bx6, rv a1, iv (own_bom bx0.toInt8.toInt32 bx1.toInt8.toInt32 bx2.toInt8.toInt32), .unset, .unset, .unset] [(.int 1)])
                refine own_st (fun _ k => XS.istore X17.here hx rfl (hb hby at_213) rfl (l' := #[iv p0, iv p1, iv p2, iv p3, iv p4, iv p5, iv 3, iv bx0, iv bx1, iv bx2, iv bx3, iv bx4, iv bx5, iv bx6, rv a1, iv (own_bom bx0.toInt8.toInt32 bx1.toInt8.toInt32 bx2.toInt8.toInt32), iv 1, .unset, .unset]) rfl k) ?_
                show own_Go p e below _ T17 (mkF m 215 #[iv p0, iv p1, iv p2, iv p3, iv p4, iv p5, iv 3, iv bx0, iv bx1, iv bx2, iv bx3, iv bx4, iv bx5, iv bx6, rv a1, iv (own_bom bx0.toInt8.toInt32 bx1.toInt8.toInt32 bx2.toInt8.toInt32), iv 1, .unset, .unset] [])
                refine own_st (fun _ k => XS.iload X17.here hx rfl (hb hby at_215) rfl k) ?_
                show own_Go p e below _ T17 (mkF m 217 #[iv p0, iv p1, iv p2, iv p3, iv p4, iv p5, iv 3, iv bx0, iv bx1, iv bx2, iv bx3, iv bx4, iv bx5, iv bx6, rv a1, iv (own_bom bx0.toInt8.toInt32 bx1.toInt8.toInt32 bx2.toInt8.toInt32), iv 1, .unset, .unset] [(.int 1)])
                refine own_st (fun _ k => XS.ifNo X17.here hx rfl (hb hby at_217) rfl (XT.i0_eq_f (by decide)) k) ?_
                show own_Go p e below _ T17 (mkF m 220 #[iv p0, iv p1, iv p2, iv p3, iv p4, iv p5, iv 3, iv bx0, iv bx1, iv bx2, iv bx3, iv bx4, iv bx5, iv bx6, rv a1, iv (own_bom bx0.toInt8.toInt32 bx1.toInt8.toInt32 bx2.toInt8.toInt32), iv 1, .unset, .unset] [])
                refine own_st (fun _ k => XT.iconstV X17.here hx rfl (3 : Int32) (hb hby at_220) (by decide) k) ?_
                show own_Go p e below _ T17 (mkF m 221 #[iv p0, iv p1, iv p2, iv p3, iv p4, iv p5, iv 3, iv bx0, iv bx1, iv bx2, iv bx3, iv bx4, iv bx5, iv bx6, rv a1, iv (own_bom bx0.toInt8.toInt32 bx1.toInt8.toInt32 bx2.toInt8.toInt32), iv 1, .unset, .unset] [(.int 3)])
                refine own_st (fun _ k => XS.goto X17.here hx rfl (pc0 := 221) (pc' := 225) rfl (hb hby at_221) (by decide) (by decide) k) ?_
                show own_Go p e below _ T17 (mkF m 225 #[iv p0, iv p1, iv p2, iv p3, iv p4, iv p5, iv 3, iv bx0, iv bx1, iv bx2, iv bx3, iv bx4, iv bx5, iv bx6, rv a1, iv (own_bom bx0.toInt8.toInt32 bx1.toInt8.toInt32 bx2.toInt8.toInt32), iv 1, .unset, .unset] [(.int 3)])
                refine own_st (fun _ k => XS.istore X17.here hx rfl (hb hby at_225) rfl (l' := #[iv p0, iv p1, iv p2, iv p3, iv p4, iv p5, iv 3, iv bx0, iv bx1, iv bx2, iv bx3, iv bx4, iv bx5, iv bx6, rv a1, iv (own_bom bx0.toInt8.toInt32 bx1.toInt8.toInt32 bx2.toInt8.toInt32), iv 1, iv 3, .unset]) rfl k) ?_
                show own_Go p e below _ T17 (mkF m 227 #[iv p0, iv p1, iv p2, iv p3, iv p4, iv p5, iv 3, iv bx0, iv bx1, iv bx2, iv bx3, iv bx4, iv bx5, iv bx6, rv a1, iv (own_bom bx0.toInt8.toInt32 bx1.toInt8.toInt32 bx2.toInt8.toInt32), iv 1, iv 3, .unset] [])
                exact KE _ _ (by simp [own_bom, ok0, ok1, ok2, cm0, cm1, cm2])
              · refine own_st (fun _ k => XS.icmpYes X17.here hx rfl (pc0 := 205) (pc' := 212) rfl (hb hby at_205) rfl (XT.ii_ne_t cm2) (by decide) (by decide) k) ?_
                show own_Go p e below _ T17 (mkF m 212 #[iv p0, iv p1, iv p2, iv p3, iv p4, iv p5, iv 3, iv bx0, iv bx1, iv bx2, iv bx3, iv bx4, iv bx5, iv bx6, rv a1, iv (own_bom bx0.toInt8.toInt32 bx1.toInt8.toInt32 bx2.toInt8.toInt32), .unset, .unset, .unset] [])
                refine own_st (fun _ k => XT.iconstV X17.here hx rfl (0 : Int32) (hb hby at_212) (by decide) k) ?_
                show own_Go p e below _ T17 (mkF m 213 #[iv p0, iv p1, iv p2, iv p3, iv p4, iv p5, iv 3, iv bx0, iv bx1, iv bx2, iv bx3, iv bx4, iv bx5, iv bx6, rv a1, iv (own_bom bx0.toInt8.toInt32 bx1.toInt8.toInt32 bx2.toInt8.toInt32), .unset, .unset, .unset] [(.int 0)])
                refine own_st (fun _ k => XS.istore X17.here hx rfl (hb hby at_213) rfl (l' := #[iv p0, iv p1, iv p2, iv p3, iv p4, iv p5, iv 3, iv bx0, iv bx1, iv bx2, iv bx3, iv bx4, iv bx5, iv bx6, rv a1, iv (own_bom bx0.toInt8.toInt32 bx1.toInt8.toInt32 bx2.toInt8.toInt32), iv 0, .unset, .unset]) rfl k) ?_
                show own_Go p e below _ T17 (mkF m 215 #[iv p0, iv p1, iv p2, iv p3, iv p4, iv p5, iv 3, iv bx0, iv bx1, iv bx2, iv bx3, iv bx4, iv bx5, iv bx6, rv a1, iv (own_bom bx0.toInt8.toInt32 bx1.toInt8.toInt32 bx2.toInt8.toInt32), iv 0, .unset, .unset] [])
                refine own_st (fun _ k => XS.iload X17.here hx rfl (hb hby at_215) rfl k) ?_
                show own_Go p e below _ T17 (mkF m 217 #[iv p0, iv p1, iv p2, iv p3, iv p4, iv p5, iv 3, iv bx0, iv bx1, iv bx2, iv bx3, iv bx4, iv bx5, iv bx6, rv a1, iv (own_bom bx0.toInt8.toInt32 bx1.toInt8.toInt32 bx2.toInt8.toInt32), iv 0, .unset, .unset] [(.int 0)])
                refine own_st (fun _ k => XS.ifYes X17.here hx rfl (pc0 := 217) (pc' := 224) rfl (hb hby at_217) rfl (XT.i0_eq_t (by decide)) (by decide) (by decide) k) ?_
                show own_Go p e below _ T17 (mkF m 224 #[iv p0, iv p1, iv p2, iv p3, iv p4, iv p5, iv 3, iv bx0, iv bx1, iv bx2, iv bx3, iv bx4, iv bx5, iv bx6, rv a1, iv (own_bom bx0.toInt8.toInt32 bx1.toInt8.toInt32 bx2.toInt8.toInt32), iv 0, .unset, .unset] [])
                refine own_st (fun _ k => XT.iconstV X17.here hx rfl (0 : Int32) (hb hby at_224) (by decide) k) ?_
                show own_Go p e below _ T17 (mkF m 225 #[iv p0, iv p1, iv p2, iv p3, iv p4, iv p5, iv 3, iv bx0, iv bx1, iv bx2, iv bx3, iv bx4, iv bx5, iv bx6, rv a1, iv (own_bom bx0.toInt8.toInt32 bx1.toInt8.toInt32 bx2.toInt8.toInt32), iv 0, .unset, .unset] [(.int 0)])
                refine own_st (fun _ k => XS.istore X17.here hx rfl (hb hby at_225) rfl (l' := #[iv p0, iv p1, iv p2, iv p3, iv p4, iv p5, iv 3, iv bx0, iv bx1, iv bx2, iv bx3, iv bx4, iv bx5, iv bx6, rv a1, iv (own_bom bx0.toInt8.toInt32 bx1.toInt8.toInt32 bx2.toInt8.toInt32), iv 0, iv 0, .unset]) rfl k) ?_
                show own_Go p e below _ T17 (mkF m 227 #[iv p0, iv p1, iv p2, iv p3, iv p4, iv p5, iv 3, iv bx0, iv bx1, iv bx2, iv bx3, iv bx4, iv bx5, iv bx6, rv a1, iv (own_bom bx0.toInt8.toInt32 bx1.toInt8.toInt32 bx2.toInt8.toInt32), iv 0, iv 0, .unset] [])
                exact KE _ _ (by simp [own_bom, ok0, ok1, ok2, cm0, cm1, cm2])
            · refine own_st (fun _ k => XS.icmpYes X17.here hx rfl (pc0 := 198) (pc' := 212) rfl (hb hby at_198) rfl (XT.ii_ne_t cm1) (by decide) (by decide) k) ?_
              show own_Go p e below _ T17 (mkF m 212 #[iv p0, iv p1, iv p2, iv p3, iv p4, iv p5, iv 3, iv bx0, iv bx1, iv bx2, iv bx3, iv bx4, iv bx5, iv bx6, rv a1, iv (own_bom bx0.toInt8.toInt32 bx1.toInt8.toInt32 bx2.toInt8.toInt32), .unset, .unset, .unset] [])
              refine own_st (fun _ k => XT.iconstV X17.here hx rfl (0 : Int32) (hb hby at_212) (by decide) k) ?_
              show own_Go p e below _ T17 (mkF m 213 #[iv p0, iv p1, iv p2, iv p3, iv p4, iv p5, iv 3, iv bx0, iv bx1, iv bx2, iv bx3, iv bx4, iv bx5, iv bx6, rv a1, iv (own_bom bx0.toInt8.toInt32 bx1.toInt8.toInt32 bx2.toInt8.toInt32), .unset, .unset, .unset] [(.int 0)])
              refine own_st (fun _ k => XS.istore X17.here hx rfl (hb hby at_213) rfl (l' := #[iv p0, iv p1, iv p2, iv p3, iv p4, iv p5, iv 3, iv bx0, iv bx1, iv bx2, iv bx3, iv bx4, iv bx5, iv bx6, rv a1, iv (own_bom bx0.toInt8.toInt32 bx1.toInt8.toInt32 bx2.toInt8.toInt32), iv 0, .unset, .unset]) rfl k) ?_
              show own_Go p e below _ T17 (mkF m 215 #[iv p0, iv p1, iv p2, iv p3, iv p4, iv p5, iv 3, iv bx0, iv bx1, iv bx2, iv bx3, iv bx4, iv bx5, iv bx6, rv a1, iv (own_bom bx0.toInt8.toInt32 bx1.toInt8.toInt32 bx2.toInt8.toInt32), iv 0, .unset, .unset] [])
              refine own_st (fun _ k => XS.iload X17.here hx rfl (hb hby at_215) rfl k) ?_
              show own_Go p e below _ T17 (mkF m 217 #[iv p0, iv p1, iv p2, iv p3, iv p4, iv p5, iv 3, iv bx0, iv bx1, iv bx2, iv bx3, iv bx4, iv bx5, iv bx6, rv a1, iv (own_bom bx0.toInt8.toInt32 bx1.toInt8.toInt32 bx2.toInt8.toInt32), iv 0, .unset, .unset] [(.int 0)])
              refine own_st (fun _ k => XS.ifYes X17.here hx rfl (pc0 := 217) (pc' := 224) rfl (hb hby at_217) rfl (XT.i0_eq_t (by decide)) (by decide) (by decide) k) ?_
              show own_Go p e below _ T17 (mkF m 224 #[iv p0, iv p1, iv p2, iv p3, iv p4, iv p5, iv 3, iv bx0, iv bx1, iv bx2, iv bx3, iv bx4, iv bx5, iv bx6, rv a1, iv (own_bom bx0.toInt8.toInt32 bx1.toInt8.toInt32 bx2.toInt8.toInt32), iv 0, .unset, .unset] [])
              refine own_st (fun _ k => XT.iconstV X17.here hx rfl (0 : Int32) (hb hby at_224) (by decide) k) ?_
              show own_Go p e below _ T17 (mkF m 225 #[iv p0, iv p1, iv p2, iv p3, iv p4, iv p5, iv 3, iv bx0, iv bx1, iv bx2, iv bx3, iv bx4, iv bx5, iv bx6, rv a1, iv (own_bom bx0.toInt8.toInt32 bx1.toInt8.toInt32 bx2.toInt8.toInt32), iv 0, .unset, .unset] [(.int 0)])
              refine own_st (fun _ k => XS.istore X17.here hx rfl (hb hby at_225) rfl (l' := #[iv p0, iv p1, iv p2, iv p3, iv p4, iv p5, iv 3, iv bx0, iv bx1, iv bx2, iv bx3, iv bx4, iv bx5, iv bx6, rv a1, iv (own_bom bx0.toInt8.toInt32 bx1.toInt8.toInt32 bx2.toInt8.toInt32), iv 0, iv 0, .unset]) rfl k) ?_
              show own_Go p e below _ T17 (mkF m 227 #[iv p0, iv p1, iv p2, iv p3, iv p4, iv p5, iv 3, iv bx0, iv bx1, iv bx2, iv bx3, iv bx4, iv bx5, iv bx6, rv a1, iv (own_bom bx0.toInt8.toInt32 bx1.toInt8.toInt32 bx2.toInt8.toInt32), iv 0, iv 0, .unset] [])
              exact KE _ _ (by simp [own_bom, ok0, ok1, ok2, cm0, cm1])
          · refine own_st (fun _ k => XS.icmpYes X17.here hx rfl (pc0 := 191) (pc' := 212) rfl (hb hby at_191) rfl (XT.ii_ne_t cm0) (by decide) (by decide) k) ?_
            show own_Go p e below _ T17 (mkF m 212 #[iv p0, iv p1, iv p2, iv p3, iv p4, iv p5, iv 3, iv bx0, iv bx1, iv bx2, iv bx3, iv bx4, iv bx5, iv bx6, rv a1, iv (own_bom bx0.toInt8.toInt32 bx1.toInt8.toInt32 bx2.toInt8.toInt32), .unset, .unset, .unset] [])
            refine own_st (fun _ k => XT.iconstV X17.here hx rfl (0 : Int32) (hb hby at_212) (by decide) k) ?_
            show own_Go p e below _ T17 (mkF m 213 #[iv p0, iv p1, iv p2, iv p3, iv p4, iv p5, iv 3, iv bx0, iv bx1, iv bx2, iv bx3, iv bx4, iv bx5, iv bx6, rv a1, iv (own_bom bx0.toInt8.toInt32 bx1.toInt8.toInt32 bx2.toInt8.toInt32), .unset, .unset, .unset] [(.int 0)])
            refine own_st (fun _ k => XS.istore X17.here hx rfl (hb hby at_213) rfl (l' := #[iv p0, iv p1, iv p2, iv p3, iv p4, iv p5, iv 3, iv bx0, iv bx1, iv bx2, iv bx3, iv bx4, iv bx5, iv bx6, rv a1, iv (own_bom bx0.toInt8.toInt32 bx1.toInt8.toInt32 bx2.toInt8.toInt32), iv 0, .unset, .unset]) rfl k) ?_
            show own_Go p e below _ T17 (mkF m 215 #[iv p0, iv p1, iv p2, iv p3, iv p4, iv p5, iv 3, iv bx0, iv bx1, iv bx2, iv bx3, iv bx4, iv bx5, iv bx6, rv a1, iv (own_bom bx0.toInt8.toInt32 bx1.toInt8.toInt32 bx2.toInt8.toInt32), iv 0, .unset, .unset] [])
            refine own_st (fun _ k => XS.iload X17.here hx rfl (hb hby at_215) rfl k) ?_
            show own_Go p e below _ T17 (mkF m 217 #[iv p0, iv p1, iv p2, iv p3, iv p4, iv p5, iv 3, iv bx0, iv bx1, iv bx2, iv bx3, iv bx4, iv bx5, iv bx6, rv a1, iv (own_bom bx0.toInt8.toInt32 bx1.toInt8.toInt32 bx2.toInt8.toInt32), iv 0, .unset, .unset] [(.int 0)])
            refine own_st (fun _ k => XS.ifYes X17.here hx rfl (pc0 := 217) (pc' := 224) rfl (hb hby at_217) rfl (XT.i0_eq_t (by decide)) (by decide) (by decide) k) ?_
            show own_Go p e below _ T17 (mkF m 224 #[iv p0, iv p1, iv p2, iv p3, iv p4, iv p5, iv 3, iv bx0, iv bx1, iv bx2, iv bx3, iv bx4, iv bx5, iv bx6, rv a1, iv (own_bom bx0.toInt8.toInt32 bx1.toInt8.toInt32 bx2.toInt8.toInt32), iv 0, .unset, .unset] [])
            refine own_st (fun _ k => XT.iconstV X17.here hx rfl (0 : Int32) (hb hby at_224) (by decide) k) ?_
            show own_Go p e below _ T17 (mkF m 225 #[iv p0, iv p1, iv p2, iv p3, iv p4, iv p5, iv 3, iv bx0, iv bx1, iv bx2, iv bx3, iv bx4, iv bx5, iv bx6, rv a1, iv (own_bom bx0.toInt8.toInt32 bx1.toInt8.toInt32 bx2.toInt8.toInt32), iv 0, .unset, .unset] [(.int 0)])
            refine own_st (fun _ k => XS.istore X17.here hx rfl (hb hby at_225) rfl (l' := #[iv p0, iv p1, iv p2, iv p3, iv p4, iv p5, iv 3, iv bx0, iv bx1, iv bx2, iv bx3, iv bx4, iv bx5, iv bx6, rv a1, iv (own_bom bx0.toInt8.toInt32 bx1.toInt8.toInt32 bx2.toInt8.toInt32), iv 0, iv 0, .unset]) rfl k) ?_
            show own_Go p e below _ T17 (mkF m 227 #[iv p0, iv p1, iv p2, iv p3, iv p4, iv p5, iv 3, iv bx0, iv bx1, iv bx2, iv bx3, iv bx4, iv bx5, iv bx6, rv a1, iv (own_bom bx0.toInt8.toInt32 bx1.toInt8.toInt32 bx2.toInt8.toInt32), iv 0, iv 0, .unset] [])
            exact KE _ _ (by simp [own_bom, ok0, ok1, ok2, cm0])
        · show own_Go p e below _ s₁ (mkF m 85 #[iv p0, iv p1, iv p2, iv p3, iv p4, iv p5, iv 4, iv bx0, iv bx1, iv bx2, iv bx3, iv bx4, iv bx5, iv bx6, .unset, .unset, .unset, .unset, .unset] [(.int 4)])
          obtain ⟨T19, h19, k_a1, X19, e19, x19, A19, st19⟩ := newP X0 hx hZ (hw _ (List.mem_of_getElem? (i := 0) rfl)) e0 (g := (mkF m 85 #[iv p0, iv p1, iv p2, iv p3, iv p4, iv p5, iv 4, iv bx0, iv bx1, iv bx2, iv bx3, iv bx4, iv bx5, iv bx6, .unset, .unset, .unset, .unset, .unset] [(.int 4)])) rfl (hb hby at_85) rfl (by decide) (cap := 4) (by decide) (by decide) (by decide) (by decide)
          obtain ⟨a1, g19⟩ : ∃ z, z = h0.size := ⟨_, rfl⟩
          rw [← g19] at A19 st19
          have g_a1 : n0 ≤ a1 := g19 ▸ Z0
          have O19 := O0.ext x19
          have Z19 : n0 ≤ h19.size := Nat.le_trans Z0 x19.1
          clear O0 Z0
          have V19_a1 : Arv Z h19 a1 k_a1 .byte (4 : Int32) [(.int 0), (.int 0), (.int 0), (.int 0)] (.int 0) := (Arv.new A19 (by decide)).pad (pad_rep [] (.int 0) 4)
          clear X0 e0
          refine own_st st19 ?_
          clear st19
          show own_Go p e below _ T19 (mkF m 87 #[iv p0, iv p1, iv p2, iv p3, iv p4, iv p5, iv 4, iv bx0, iv bx1, iv bx2, iv bx3, iv bx4, iv bx5, iv bx6, .unset, .unset, .unset, .unset, .unset] [(.ref a1)])
          refine own_st (fun _ k => XS.astore X19.here hx rfl (hb hby at_87) rfl rfl (l' := #[iv p0, iv p1, iv p2, iv p3, iv p4, iv p5, iv 4, iv bx0, iv bx1, iv bx2, iv bx3, iv bx4, iv bx5, iv bx6, rv a1, .unset, .unset, .unset, .unset]) rfl k) ?_
          show own_Go p e below _ T19 (mkF m 89 #[iv p0, iv p1, iv p2, iv p3, iv p4, iv p5, iv 4, iv bx0, iv bx1, iv bx2, iv bx3, iv bx4, iv bx5, iv bx6, rv a1, .unset, .unset, .unset, .unset] [])
          refine own_st (fun _ k => XS.iload X19.here hx rfl (hb hby at_89) rfl k) ?_
          show own_Go p e below _ T19 (mkF m 91 #[iv p0, iv p1, iv p2, iv p3, iv p4, iv p5, iv 4, iv bx0, iv bx1, iv bx2, iv bx3, iv bx4, iv bx5, iv bx6, rv a1, .unset, .unset, .unset, .unset] [(.int 4)])
          refine own_st (fun _ k => XS.ifNo X19.here hx rfl (hb hby at_91) rfl (XT.i0_le_f (by decide)) k) ?_
          show own_Go p e below _ T19 (mkF m 94 #[iv p0, iv p1, iv p2, iv p3, iv p4, iv p5, iv 4, iv bx0, iv bx1, iv bx2, iv bx3, iv bx4, iv bx5, iv bx6, rv a1, .unset, .unset, .unset, .unset] [])
          refine own_st (fun _ k => XS.aload X19.here hx rfl (hb hby at_94) rfl rfl k) ?_
          show own_Go p e below _ T19 (mkF m 96 #[iv p0, iv p1, iv p2, iv p3, iv p4, iv p5, iv 4, iv bx0, iv bx1, iv bx2, iv bx3, iv bx4, iv bx5, iv bx6, rv a1, .unset, .unset, .unset, .unset] [(.ref a1)])
          refine own_st (fun _ k => XT.iconstV X19.here hx rfl (0 : Int32) (hb hby at_96) (by decide) k) ?_
          show own_Go p e below _ T19 (mkF m 97 #[iv p0, iv p1, iv p2, iv p3, iv p4, iv p5, iv 4, iv bx0, iv bx1, iv bx2, iv bx3, iv bx4, iv bx5, iv bx6, rv a1, .unset, .unset, .unset, .unset] [(.int 0), (.ref a1)])
          refine own_st (fun _ k => XS.iload X19.here hx rfl (hb hby at_97) rfl k) ?_
          show own_Go p e below _ T19 (mkF m 99 #[iv p0, iv p1, iv p2, iv p3, iv p4, iv p5, iv 4, iv bx0, iv bx1, iv bx2, iv bx3, iv bx4, iv bx5, iv bx6, rv a1, .unset, .unset, .unset, .unset] [(.int bx0), (.int 0), (.ref a1)])
          obtain ⟨T20, h20, X20, e20, W20, V20, st20⟩ := own_stB X19 hx hZ e19 V19_a1 (j := (0 : Int32)) ⟨by decide, by decide⟩ 0 rfl (Nat.le_of_ble_eq_true rfl) (g := (mkF m 99 #[iv p0, iv p1, iv p2, iv p3, iv p4, iv p5, iv 4, iv bx0, iv bx1, iv bx2, iv bx3, iv bx4, iv bx5, iv bx6, rv a1, .unset, .unset, .unset, .unset] [(.int bx0), (.int 0), (.ref a1)])) rfl rfl (hb hby at_99)
          have V20_a1 : Arv Z h20 a1 k_a1 .byte (4 : Int32) [(.int bx0.toInt8.toInt32), (.int 0), (.int 0), (.int 0)] (.int 0) := V20
          have O20 := O19.wr W20 g_a1
          have Z20 : n0 ≤ h20.size := by rw [W20.size]; exact Z19
          clear O19 Z19 V19_a1 W20
          have N20 := Fr.snoc X20 N0 g_a1
          clear X19 e19
          refine own_st st20 ?_
          clear st20
          show own_Go p e below _ T20 (mkF m 100 #[iv p0, iv p1, iv p2, iv p3, iv p4, iv p5, iv 4, iv bx0, iv bx1, iv bx2, iv bx3, iv bx4, iv bx5, iv bx6, rv a1, .unset, .unset, .unset, .unset] [])
          refine own_st (fun _ k => XS.iload X20.here hx rfl (hb hby at_100) rfl k) ?_
          show own_Go p e below _ T20 (mkF m 102 #[iv p0, iv p1, iv p2, iv p3, iv p4, iv p5, iv 4, iv bx0, iv bx1, iv bx2, iv bx3, iv bx4, iv bx5, iv bx6, rv a1, .unset, .unset, .unset, .unset] [(.int 4)])
          refine own_st (fun _ k => XT.iconstV X20.here hx rfl (1 : Int32) (hb hby at_102) (by decide) k) ?_
          show own_Go p e below _ T20 (mkF m 103 #[iv p0, iv p1, iv p2, iv p3, iv p4, iv p5, iv 4, iv bx0, iv bx1, iv bx2, iv bx3, iv bx4, iv bx5, iv bx6, rv a1, .unset, .unset, .unset, .unset] [(.int 1), (.int 4)])
          refine own_st (fun _ k => XS.icmpNo X20.here hx rfl (hb hby at_103) rfl (XT.ii_le_f (by decide)) k) ?_
          show own_Go p e below _ T20 (mkF m 106 #[iv p0, iv p1, iv p2, iv p3, iv p4, iv p5, iv 4, iv bx0, iv bx1, iv bx2, iv bx3, iv bx4, iv bx5, iv bx6, rv a1, .unset, .unset, .unset, .unset] [])
          refine own_st (fun _ k => XS.aload X20.here hx rfl (hb hby at_106) rfl rfl k) ?_
          show own_Go p e below _ T20 (mkF m 108 #[iv p0, iv p1, iv p2, iv p3, iv p4, iv p5, iv 4, iv bx0, iv bx1, iv bx2, iv bx3, iv bx4, iv bx5, iv bx6, rv a1, .unset, .unset, .unset, .unset] [(.ref a1)])
          refine own_st (fun _ k => XT.iconstV X20.here hx rfl (1 : Int32) (hb hby at_108) (by decide) k) ?_
          show own_Go p e below _ T20 (mkF m 109 #[iv p0, iv p1, iv p2, iv p3, iv p4, iv p5, iv 4, iv bx0, iv bx1, iv bx2, iv bx3, iv bx4, iv bx5, iv bx6, rv a1, .unset, .unset, .unset, .unset] [(.int 1), (.ref a1)])
          refine own_st (fun _ k => XS.iload X20.here hx rfl (hb hby at_109) rfl k) ?_
          show own_Go p e below _ T20 (mkF m 111 #[iv p0, iv p1, iv p2, iv p3, iv p4, iv p5, iv 4, iv bx0, iv bx1, iv bx2, iv bx3, iv bx4, iv bx5, iv bx6, rv a1, .unset, .unset, .unset, .unset] [(.int bx1), (.int 1), (.ref a1)])
          obtain ⟨T21, h21, X21, e21, W21, V21, st21⟩ := own_stB X20 hx hZ e20 V20_a1 (j := (1 : Int32)) ⟨by decide, by decide⟩ 1 rfl (Nat.le_of_ble_eq_true rfl) (g := (mkF m 111 #[iv p0, iv p1, iv p2, iv p3, iv p4, iv p5, iv 4, iv bx0, iv bx1, iv bx2, iv bx3, iv bx4, iv bx5, iv bx6, rv a1, .unset, .unset, .unset, .unset] [(.int bx1), (.int 1), (.ref a1)])) rfl rfl (hb hby at_111)
          have V21_a1 : Arv Z h21 a1 k_a1 .byte (4 : Int32) [(.int bx0.toInt8.toInt32), (.int bx1.toInt8.toInt32), (.int 0), (.int 0)] (.int 0) := V21
          have O21 := O20.wr W21 g_a1
          have Z21 : n0 ≤ h21.size := by rw [W21.size]; exact Z20
          clear O20 Z20 V20_a1 W21
          have N21 := Fr.snoc X21 N20 g_a1
          clear X20 e20
          refine own_st st21 ?_
          clear st21
          show own_Go p e below _ T21 (mkF m 112 #[iv p0, iv p1, iv p2, iv p3, iv p4, iv p5, iv 4, iv bx0, iv bx1, iv bx2, iv bx3, iv bx4, iv bx5, iv bx6, rv a1, .unset, .unset, .unset, .unset] [])
          refine own_st (fun _ k => XS.iload X21.here hx rfl (hb hby at_112) rfl k) ?_
          show own_Go p e below _ T21 (mkF m 114 #[iv p0, iv p1, iv p2, iv p3, iv p4, iv p5, iv 4, iv bx0, iv bx1, iv bx2, iv bx3, iv bx4, iv bx5, iv bx6, rv a1, .unset, .unset, .unset, .unset] [(.int 4)])
          refine own_st (fun _ k => XT.iconstV X21.here hx rfl (2 : Int32) (hb hby at_114) (by decide) k) ?_
          show own_Go p e below _ T21 (mkF m 115 #[iv p0, iv p1, iv p2, iv p3, iv p4, iv p5, iv 4, iv bx0, iv bx1, iv bx2, iv bx3, iv bx4, iv bx5, iv bx6, rv a1, .unset, .unset, .unset, .unset] [(.int 2), (.int 4)])
          refine own_st (fun _ k => XS.icmpNo X21.here hx rfl (hb hby at_115) rfl (XT.ii_le_f (by decide)) k) ?_
          show own_Go p e below _ T21 (mkF m 118 #[iv p0, iv p1, iv p2, iv p3, iv p4, iv p5, iv 4, iv bx0, iv bx1, iv bx2, iv bx3, iv bx4, iv bx5, iv bx6, rv a1, .unset, .unset, .unset, .unset] [])
          refine own_st (fun _ k => XS.aload X21.here hx rfl (hb hby at_118) rfl rfl k) ?_
          show own_Go p e below _ T21 (mkF m 120 #[iv p0, iv p1, iv p2, iv p3, iv p4, iv p5, iv 4, iv bx0, iv bx1, iv bx2, iv bx3, iv bx4, iv bx5, iv bx6, rv a1, .unset, .unset, .unset, .unset] [(.ref a1)])
          refine own_st (fun _ k => XT.iconstV X21.here hx rfl (2 : Int32) (hb hby at_120) (by decide) k) ?_
          show own_Go p e below _ T21 (mkF m 121 #[iv p0, iv p1, iv p2, iv p3, iv p4, iv p5, iv 4, iv bx0, iv bx1, iv bx2, iv bx3, iv bx4, iv bx5, iv bx6, rv a1, .unset, .unset, .unset, .unset] [(.int 2), (.ref a1)])
          refine own_st (fun _ k => XS.iload X21.here hx rfl (hb hby at_121) rfl k) ?_
          show own_Go p e below _ T21 (mkF m 123 #[iv p0, iv p1, iv p2, iv p3, iv p4, iv p5, iv 4, iv bx0, iv bx1, iv bx2, iv bx3, iv bx4, iv bx5, iv bx6, rv a1, .unset, .unset, .unset, .unset] [(.int bx2), (.int 2), (.ref a1)])
          obtain ⟨T22, h22, X22, e22, W22, V22, st22⟩ := own_stB X21 hx hZ e21 V21_a1 (j := (2 : Int32)) ⟨by decide, by decide⟩ 2 rfl (Nat.le_of_ble_eq_true rfl) (g := (mkF m 123 #[iv p0, iv p1, iv p2, iv p3, iv p4, iv p5, iv 4, iv bx0, iv bx1, iv bx2, iv bx3, iv bx4, iv bx5, iv bx6, rv a1, .unset, .unset, .unset, .unset] [(.int bx2), (.int 2), (.ref a1)])) rfl rfl (hb hby at_123)
          have V22_a1 : Arv Z h22 a1 k_a1 .byte (4 : Int32) [(.int bx0.toInt8.toInt32), (.int bx1.toInt8.toInt32), (.int bx2.toInt8.toInt32), (.int 0)] (.int 0) := V22
          have O22 := O21.wr W22 g_a1
          have Z22 : n0 ≤ h22.size := by rw [W22.size]; exact Z21
          clear O21 Z21 V21_a1 W22
          have N22 := Fr.snoc X22 N21 g_a1
          clear X21 e21
          refine own_st st22 ?_
          clear st22
          show own_Go p e below _ T22 (mkF m 124 #[iv p0, iv p1, iv p2, iv p3, iv p4, iv p5, iv 4, iv bx0, iv bx1, iv bx2, iv bx3, iv bx4, iv bx5, iv bx6, rv a1, .unset, .unset, .unset, .unset] [])
          refine own_st (fun _ k => XS.iload X22.here hx rfl (hb hby at_124) rfl k) ?_
          show own_Go p e below _ T22 (mkF m 126 #[iv p0, iv p1, iv p2, iv p3, iv p4, iv p5, iv 4, iv bx0, iv bx1, iv bx2, iv bx3, iv bx4, iv bx5, iv bx6, rv a1, .unset, .unset, .unset, .unset] [(.int 4)])
          refine own_st (fun _ k => XT.iconstV X22.here hx rfl (3 : Int32) (hb hby at_126) (by decide) k) ?_
          show own_Go p e below _ T22 (mkF m 127 #[iv p0, iv p1, iv p2, iv p3, iv p4, iv p5, iv 4, iv bx0, iv bx1, iv bx2, iv bx3, iv bx4, iv bx5, iv bx6, rv a1, .unset, .unset, .unset, .unset] [(.int 3), (.int 4)])
          refine own_st (fun _ k => XS.icmpNo X22.here hx rfl (hb hby at_127) rfl (XT.ii_le_f (by decide)) k) ?_
          show own_Go p e below _ T22 (mkF m 130 #[iv p0, iv p1, iv p2, iv p3, iv p4, iv p5, iv 4, iv bx0, iv bx1, iv bx2, iv bx3, iv bx4, iv bx5, iv bx6, rv a1, .unset, .unset, .unset, .unset] [])
          refine own_st (fun _ k => XS.aload X22.here hx rfl (hb hby at_130) rfl rfl k) ?_
          show own_Go p e below _ T22 (mkF m 132 #[iv p0, iv p1, iv p2, iv p3, iv p4, iv p5, iv 4, iv bx0, iv bx1, iv bx2, iv bx3, iv bx4, iv bx5, iv bx6, rv a1, .unset, .unset, .unset, .unset] [(.ref a1)])
          refine own_st (fun _ k => XT.iconstV X22.here hx rfl (3 : Int32) (hb hby at_132) (by decide) k) ?_
          show own_Go p e below _ T22 (mkF m 133 #[iv p0, iv p1, iv p2, iv p3, iv p4, iv p5, iv 4, iv bx0, iv bx1, iv bx2, iv bx3, iv bx4, iv bx5, iv bx6, rv a1, .unset, .unset, .unset, .unset] [(.int 3), (.ref a1)])
          refine own_st (fun _ k => XS.iload X22.here hx rfl (hb hby at_133) rfl k) ?_
          show own_Go p e below _ T22 (mkF m 135 #[iv p0, iv p1, iv p2, iv p3, iv p4, iv p5, iv 4, iv bx0, iv bx1, iv bx2, iv bx3, iv bx4, iv bx5, iv bx6, rv a1, .unset, .unset, .unset, .unset] [(.int bx3), (.int 3), (.ref a1)])
          obtain ⟨T23, h23, X23, e23, W23, V23, st23⟩ := own_stB X22 hx hZ e22 V22_a1 (j := (3 : Int32)) ⟨by decide, by decide⟩ 3 rfl (Nat.le_of_ble_eq_true rfl) (g := (mkF m 135 #[iv p0, iv p1, iv p2, iv p3, iv p4, iv p5, iv 4, iv bx0, iv bx1, iv bx2, iv bx3, iv bx4, iv bx5, iv bx6, rv a1, .unset, .unset, .unset, .unset] [(.int bx3), (.int 3), (.ref a1)])) rfl rfl (hb hby at_135)
          have V23_a1 : Arv Z h23 a1 k_a1 .byte (4 : Int32) [(.int bx0.toInt8.toInt32), (.int bx1.toInt8.toInt32), (.int bx2.toInt8.toInt32), (.int bx3.toInt8.toInt32)] (.int 0) := V23
          have O23 := O22.wr W23 g_a1
          have Z23 : n0 ≤ h23.size := by rw [W23.size]; exact Z22
          clear O22 Z22 V22_a1 W23
          have N23 := Fr.snoc X23 N22 g_a1
          clear X22 e22
          refine own_st st23 ?_
          clear st23
          show own_Go p e below _ T23 (mkF m 136 #[iv p0, iv p1, iv p2, iv p3, iv p4, iv p5, iv 4, iv bx0, iv bx1, iv bx2, iv bx3, iv bx4, iv bx5, iv bx6, rv a1, .unset, .unset, .unset, .unset] [])
          refine own_st (fun _ k => XS.iload X23.here hx rfl (hb hby at_136) rfl k) ?_
          show own_Go p e below _ T23 (mkF m 138 #[iv p0, iv p1, iv p2, iv p3, iv p4, iv p5, iv 4, iv bx0, iv bx1, iv bx2, iv bx3, iv bx4, iv bx5, iv bx6, rv a1, .unset, .unset, .unset, .unset] [(.int 4)])
          refine own_st (fun _ k => XT.iconstV X23.here hx rfl (4 : Int32) (hb hby at_138) (by decide) k) ?_
          show own_Go p e below _ T23 (mkF m 139 #[iv p0, iv p1, iv p2, iv p3, iv p4, iv p5, iv 4, iv bx0, iv bx1, iv bx2, iv bx3, iv bx4, iv bx5, iv bx6, rv a1, .unset, .unset, .unset, .unset] [(.int 4), (.int 4)])
          refine own_st (fun _ k => XS.icmpYes X23.here hx rfl (pc0 := 139) (pc' := 148) rfl (hb hby at_139) rfl (XT.ii_le_t (by decide)) (by decide) (by decide) k) ?_
          show own_Go p e below _ T23 (mkF m 148 #[iv p0, iv p1, iv p2, iv p3, iv p4, iv p5, iv 4, iv bx0, iv bx1, iv bx2, iv bx3, iv bx4, iv bx5, iv bx6, rv a1, .unset, .unset, .unset, .unset] [])
          refine own_st (fun _ k => XS.iload X23.here hx rfl (hb hby at_148) rfl k) ?_
          show own_Go p e below _ T23 (mkF m 150 #[iv p0, iv p1, iv p2, iv p3, iv p4, iv p5, iv 4, iv bx0, iv bx1, iv bx2, iv bx3, iv bx4, iv bx5, iv bx6, rv a1, .unset, .unset, .unset, .unset] [(.int 4)])
          refine own_st (fun _ k => XT.iconstV X23.here hx rfl (5 : Int32) (hb hby at_150) (by decide) k) ?_
          show own_Go p e below _ T23 (mkF m 151 #[iv p0, iv p1, iv p2, iv p3, iv p4, iv p5, iv 4, iv bx0, iv bx1, iv bx2, iv bx3, iv bx4, iv bx5, iv bx6, rv a1, .unset, .unset, .unset, .unset] [(.int 5), (.int 4)])
          refine own_st (fun _ k => XS.icmpYes X23.here hx rfl (pc0 := 151) (pc' := 160) rfl (hb hby at_151) rfl (XT.ii_le_t (by decide)) (by decide) (by decide) k) ?_
          show own_Go p e below _ T23 (mkF m 160 #[iv p0, iv p1, iv p2, iv p3, iv p4, iv p5, iv 4, iv bx0, iv bx1, iv bx2, iv bx3, iv bx4, iv bx5, iv bx6, rv a1, .unset, .unset, .unset, .unset] [])
          refine own_st (fun _ k => XS.iload X23.here hx rfl (hb hby at_160) rfl k) ?_
          show own_Go p e below _ T23 (mkF m 162 #[iv p0, iv p1, iv p2, iv p3, iv p4, iv p5, iv 4, iv bx0, iv bx1, iv bx2, iv bx3, iv bx4, iv bx5, iv bx6, rv a1, .unset, .unset, .unset, .unset] [(.int 4)])
          refine own_st (fun _ k => XT.bipushV X23.here hx rfl (6 : Int32) (hb hby at_162) (by decide) k) ?_
          show own_Go p e below _ T23 (mkF m 164 #[iv p0, iv p1, iv p2, iv p3, iv p4, iv p5, iv 4, iv bx0, iv bx1, iv bx2, iv bx3, iv bx4, iv bx5, iv bx6, rv a1, .unset, .unset, .unset, .unset] [(.int 6), (.int 4)])
          refine own_st (fun _ k => XS.icmpYes X23.here hx rfl (pc0 := 164) (pc' := 174) rfl (hb hby at_164) rfl (XT.ii_le_t (by decide)) (by decide) (by decide) k) ?_
          show own_Go p e below _ T23 (mkF m 174 #[iv p0, iv p1, iv p2, iv p3, iv p4, iv p5, iv 4, iv bx0, iv bx1, iv bx2, iv bx3, iv bx4, iv bx5, iv bx6, rv a1, .unset, .unset, .unset, .unset] [])
          refine own_st (fun _ k => XS.aload X23.here hx rfl (hb hby at_174) rfl rfl k) ?_
          show own_Go p e below _ T23 (mkF m 176 #[iv p0, iv p1, iv p2, iv p3, iv p4, iv p5, iv 4, iv bx0, iv bx1, iv bx2, iv bx3, iv bx4, iv bx5, iv bx6, rv a1, .unset, .unset, .unset, .unset] [(.ref a1)])
          have VBx := VB.ext O23.2
          obtain ⟨_, _, ⟨T24, L24, k24, n24⟩, -, X24, ⟨Lc24, hQ24, l24, y24, z24⟩, st24⟩ := Jvm.LawKit.callS X23 hx (y := (⟨"com/example/broken_to_found/brokentofound/watch/UrlList", "byteOrderMarkLength", "([B)I"⟩ : MethodName)) hown (mvT hZ (hw _ (List.mem_of_getElem? (i := 1) rfl))) (mvT hZ (hw _ (List.mem_of_getElem? (i := 2) rfl))) (mvT hZ (hw _ (List.mem_of_getElem? (i := 3) rfl))) (mvT hZ (hw _ (List.mem_of_getElem? (i := 4) rfl))) (by decide) (backOf (W := 0) (own_rm_bom l Z a0 hw [] a1 k_a1 (4 : Int32) [(.int bx0.toInt8.toInt32), (.int bx1.toInt8.toInt32), (.int bx2.toInt8.toInt32), (.int bx3.toInt8.toInt32)] bx0.toInt8.toInt32 bx1.toInt8.toInt32 bx2.toInt8.toInt32 w_B kB h23 n0 Z23 V23_a1 VBx (by decide) rfl rfl rfl (S_B.ext O23.2)) hZ (hw _ (List.mem_of_getElem? (i := 4) rfl)) (hw _ (List.mem_of_getElem? (i := 3) rfl)) (by decide) (by decide)) (g := (mkF m 176 #[iv p0, iv p1, iv p2, iv p3, iv p4, iv p5, iv 4, iv bx0, iv bx1, iv bx2, iv bx3, iv bx4, iv bx5, iv bx6, rv a1, .unset, .unset, .unset, .unset] [(.ref a1)])) rfl (by rw [hml]; rfl) (argsL := [(.ref a1)]) (rest := []) (lenOf own_pd3 rfl) rfl (by show 2 * 0 + _ ≤ _; exact Nat.le_of_eq rfl) (hb hby at_176) (fun _ _ => ⟨rfl, e23, (by decide : 1 + 0 ≤ _), (by decide : 4 + 0 ≤ _)⟩)
          dsimp only [Pt.U, Pt.locs, Pt.cells, Pt.slots] at X24 l24 y24 z24 st24 hQ24
          subst l24 y24 z24
          obtain ⟨rfl, N24, eh24⟩ := hQ24
          have M24 := Fr.app N23 N24
          refine own_st st24 ?_
          clear N23 X23 N24 e23 st24
          show own_Go p e below _ T24 (mkF m 179 #[iv p0, iv p1, iv p2, iv p3, iv p4, iv p5, iv 4, iv bx0, iv bx1, iv bx2, iv bx3, iv bx4, iv bx5, iv bx6, rv a1, .unset, .unset, .unset, .unset] [(.int (own_bom bx0.toInt8.toInt32 bx1.toInt8.toInt32 bx2.toInt8.toInt32))])
          refine own_st (fun _ k => XS.istore X24.here hx rfl (hb hby at_179) rfl (l' := #[iv p0, iv p1, iv p2, iv p3, iv p4, iv p5, iv 4, iv bx0, iv bx1, iv bx2, iv bx3, iv bx4, iv bx5, iv bx6, rv a1, iv (own_bom bx0.toInt8.toInt32 bx1.toInt8.toInt32 bx2.toInt8.toInt32), .unset, .unset, .unset]) rfl k) ?_
          show own_Go p e below _ T24 (mkF m 181 #[iv p0, iv p1, iv p2, iv p3, iv p4, iv p5, iv 4, iv bx0, iv bx1, iv bx2, iv bx3, iv bx4, iv bx5, iv bx6, rv a1, iv (own_bom bx0.toInt8.toInt32 bx1.toInt8.toInt32 bx2.toInt8.toInt32), .unset, .unset, .unset] [])
          refine own_st (fun _ k => XS.iload X24.here hx rfl (hb hby at_181) rfl k) ?_
          show own_Go p e below _ T24 (mkF m 183 #[iv p0, iv p1, iv p2, iv p3, iv p4, iv p5, iv 4, iv bx0, iv bx1, iv bx2, iv bx3, iv bx4, iv bx5, iv bx6, rv a1, iv (own_bom bx0.toInt8.toInt32 bx1.toInt8.toInt32 bx2.toInt8.toInt32), .unset, .unset, .unset] [(.int 4)])
          refine own_st (fun _ k => XT.iconstV X24.here hx rfl (3 : Int32) (hb hby at_183) (by decide) k) ?_
          show own_Go p e below _ T24 (mkF m 184 #[iv p0, iv p1, iv p2, iv p3, iv p4, iv p5, iv 4, iv bx0, iv bx1, iv bx2, iv bx3, iv bx4, iv bx5, iv bx6, rv a1, iv (own_bom bx0.toInt8.toInt32 bx1.toInt8.toInt32 bx2.toInt8.toInt32), .unset, .unset, .unset] [(.int 3), (.int 4)])
          have KE : ∀ mk ex : Int32, ex = (own_bom bx0.toInt8.toInt32 bx1.toInt8.toInt32 bx2.toInt8.toInt32) → own_Go p e below (own_K s (own_Q_law Z p0 p1 p2 p3 p4 p5 w_B kB h0 n0) 16 128) T24 (mkF m 227 #[iv p0, iv p1, iv p2, iv p3, iv p4, iv p5, iv 4, iv bx0, iv bx1, iv bx2, iv bx3, iv bx4, iv bx5, iv bx6, rv a1, iv (own_bom bx0.toInt8.toInt32 bx1.toInt8.toInt32 bx2.toInt8.toInt32), iv mk, iv ex, .unset] []) := by
            intro mk ex hex
            show own_Go p e below _ T24 (mkF m 227 #[iv p0, iv p1, iv p2, iv p3, iv p4, iv p5, iv 4, iv bx0, iv bx1, iv bx2, iv bx3, iv bx4, iv bx5, iv bx6, rv a1, iv (own_bom bx0.toInt8.toInt32 bx1.toInt8.toInt32 bx2.toInt8.toInt32), iv mk, iv ex, .unset] [])
            refine own_st (fun _ k => XS.aload X24.here hx rfl (hb hby at_227) rfl rfl k) ?_
            show own_Go p e below _ T24 (mkF m 229 #[iv p0, iv p1, iv p2, iv p3, iv p4, iv p5, iv 4, iv bx0, iv bx1, iv bx2, iv bx3, iv bx4, iv bx5, iv bx6, rv a1, iv (own_bom bx0.toInt8.toInt32 bx1.toInt8.toInt32 bx2.toInt8.toInt32), iv mk, iv ex, .unset] [(.ref a1)])
            refine own_st (fun _ k => own_len X24 hx hZ eh24 V23_a1 rfl rfl (hb hby at_229) k) ?_
            show own_Go p e below _ T24 (mkF m 230 #[iv p0, iv p1, iv p2, iv p3, iv p4, iv p5, iv 4, iv bx0, iv bx1, iv bx2, iv bx3, iv bx4, iv bx5, iv bx6, rv a1, iv (own_bom bx0.toInt8.toInt32 bx1.toInt8.toInt32 bx2.toInt8.toInt32), iv mk, iv ex, .unset] [(.int 4)])
            refine own_st (fun _ k => XS.iload X24.here hx rfl (hb hby at_230) rfl k) ?_
            show own_Go p e below _ T24 (mkF m 232 #[iv p0, iv p1, iv p2, iv p3, iv p4, iv p5, iv 4, iv bx0, iv bx1, iv bx2, iv bx3, iv bx4, iv bx5, iv bx6, rv a1, iv (own_bom bx0.toInt8.toInt32 bx1.toInt8.toInt32 bx2.toInt8.toInt32), iv mk, iv ex, .unset] [(.int 4), (.int 4)])
            refine own_st (fun _ k => XS.icmpNo X24.here hx rfl (hb hby at_232) rfl (XT.ii_ne_f rfl) k) ?_
            show own_Go p e below _ T24 (mkF m 235 #[iv p0, iv p1, iv p2, iv p3, iv p4, iv p5, iv 4, iv bx0, iv bx1, iv bx2, iv bx3, iv bx4, iv bx5, iv bx6, rv a1, iv (own_bom bx0.toInt8.toInt32 bx1.toInt8.toInt32 bx2.toInt8.toInt32), iv mk, iv ex, .unset] [])
            refine own_st (fun _ k => XS.iload X24.here hx rfl (hb hby at_235) rfl k) ?_
            show own_Go p e below _ T24 (mkF m 237 #[iv p0, iv p1, iv p2, iv p3, iv p4, iv p5, iv 4, iv bx0, iv bx1, iv bx2, iv bx3, iv bx4, iv bx5, iv bx6, rv a1, iv (own_bom bx0.toInt8.toInt32 bx1.toInt8.toInt32 bx2.toInt8.toInt32), iv mk, iv ex, .unset] [(.int 4)])
            refine own_st (fun _ k => XS.ifNo X24.here hx rfl (hb hby at_237) rfl (XT.i0_le_f (by decide)) k) ?_
            show own_Go p e below _ T24 (mkF m 240 #[iv p0, iv p1, iv p2, iv p3, iv p4, iv p5, iv 4, iv bx0, iv bx1, iv bx2, iv bx3, iv bx4, iv bx5, iv bx6, rv a1, iv (own_bom bx0.toInt8.toInt32 bx1.toInt8.toInt32 bx2.toInt8.toInt32), iv mk, iv ex, .unset] [])
            refine own_st (fun _ k => XS.aload X24.here hx rfl (hb hby at_240) rfl rfl k) ?_
            show own_Go p e below _ T24 (mkF m 242 #[iv p0, iv p1, iv p2, iv p3, iv p4, iv p5, iv 4, iv bx0, iv bx1, iv bx2, iv bx3, iv bx4, iv bx5, iv bx6, rv a1, iv (own_bom bx0.toInt8.toInt32 bx1.toInt8.toInt32 bx2.toInt8.toInt32), iv mk, iv ex, .unset] [(.ref a1)])
            refine own_st (fun _ k => XT.iconstV X24.here hx rfl (0 : Int32) (hb hby at_242) (by decide) k) ?_
            show own_Go p e below _ T24 (mkF m 243 #[iv p0, iv p1, iv p2, iv p3, iv p4, iv p5, iv 4, iv bx0, iv bx1, iv bx2, iv bx3, iv bx4, iv bx5, iv bx6, rv a1, iv (own_bom bx0.toInt8.toInt32 bx1.toInt8.toInt32 bx2.toInt8.toInt32), iv mk, iv ex, .unset] [(.int 0), (.ref a1)])
            refine own_st (fun _ k => own_ldB X24 hx hZ eh24 V23_a1 ⟨by decide, by decide⟩ (v := (.int bx0.toInt8.toInt32)) rfl rfl rfl (hb hby at_243) k) ?_
            show own_Go p e below _ T24 (mkF m 244 #[iv p0, iv p1, iv p2, iv p3, iv p4, iv p5, iv 4, iv bx0, iv bx1, iv bx2, iv bx3, iv bx4, iv bx5, iv bx6, rv a1, iv (own_bom bx0.toInt8.toInt32 bx1.toInt8.toInt32 bx2.toInt8.toInt32), iv mk, iv ex, .unset] [(.int bx0.toInt8.toInt32)])
            refine own_st (fun _ k => XS.iload X24.here hx rfl (hb hby at_244) rfl k) ?_
            show own_Go p e below _ T24 (mkF m 246 #[iv p0, iv p1, iv p2, iv p3, iv p4, iv p5, iv 4, iv bx0, iv bx1, iv bx2, iv bx3, iv bx4, iv bx5, iv bx6, rv a1, iv (own_bom bx0.toInt8.toInt32 bx1.toInt8.toInt32 bx2.toInt8.toInt32), iv mk, iv ex, .unset] [(.int bx0), (.int bx0.toInt8.toInt32)])
            refine own_st (fun _ k => XS.icmpNo X24.here hx rfl (hb hby at_246) rfl (XT.ii_ne_f ok0) k) ?_
            show own_Go p e below _ T24 (mkF m 249 #[iv p0, iv p1, iv p2, iv p3, iv p4, iv p5, iv 4, iv bx0, iv bx1, iv bx2, iv bx3, iv bx4, iv bx5, iv bx6, rv a1, iv (own_bom bx0.toInt8.toInt32 bx1.toInt8.toInt32 bx2.toInt8.toInt32), iv mk, iv ex, .unset] [])
            refine own_st (fun _ k => XS.iload X24.here hx rfl (hb hby at_249) rfl k) ?_
            show own_Go p e below _ T24 (mkF m 251 #[iv p0, iv p1, iv p2, iv p3, iv p4, iv p5, iv 4, iv bx0, iv bx1, iv bx2, iv bx3, iv bx4, iv bx5, iv bx6, rv a1, iv (own_bom bx0.toInt8.toInt32 bx1.toInt8.toInt32 bx2.toInt8.toInt32), iv mk, iv ex, .unset] [(.int 4)])
            refine own_st (fun _ k => XT.iconstV X24.here hx rfl (1 : Int32) (hb hby at_251) (by decide) k) ?_
            show own_Go p e below _ T24 (mkF m 252 #[iv p0, iv p1, iv p2, iv p3, iv p4, iv p5, iv 4, iv bx0, iv bx1, iv bx2, iv bx3, iv bx4, iv bx5, iv bx6, rv a1, iv (own_bom bx0.toInt8.toInt32 bx1.toInt8.toInt32 bx2.toInt8.toInt32), iv mk, iv ex, .unset] [(.int 1), (.int 4)])
            refine own_st (fun _ k => XS.icmpNo X24.here hx rfl (hb hby at_252) rfl (XT.ii_le_f (by decide)) k) ?_
            show own_Go p e below _ T24 (mkF m 255 #[iv p0, iv p1, iv p2, iv p3, iv p4, iv p5, iv 4, iv bx0, iv bx1, iv bx2, iv bx3, iv bx4, iv bx5, iv bx6, rv a1, iv (own_bom bx0.toInt8.toInt32 bx1.toInt8.toInt32 bx2.toInt8.toInt32), iv mk, iv ex, .unset] [])
            refine own_st (fun _ k => XS.aload X24.here hx rfl (hb hby at_255) rfl rfl k) ?_
            show own_Go p e below _ T24 (mkF m 257 #[iv p0, iv p1, iv p2, iv p3, iv p4, iv p5, iv 4, iv bx0, iv bx1, iv bx2, iv bx3, iv bx4, iv bx5, iv bx6, rv a1, iv (own_bom bx0.toInt8.toInt32 bx1.toInt8.toInt32 bx2.toInt8.toInt32), iv mk, iv ex, .unset] [(.ref a1)])
            refine own_st (fun _ k => XT.iconstV X24.here hx rfl (1 : Int32) (hb hby at_257) (by decide) k) ?_
            show own_Go p e below _ T24 (mkF m 258 #[iv p0, iv p1, iv p2, iv p3, iv p4, iv p5, iv 4, iv bx0, iv bx1, iv bx2, iv bx3, iv bx4, iv bx5, iv bx6, rv a1, iv (own_bom bx0.toInt8.toInt32 bx1.toInt8.toInt32 bx2.toInt8.toInt32), iv mk, iv ex, .unset] [(.int 1), (.ref a1)])
            refine own_st (fun _ k => own_ldB X24 hx hZ eh24 V23_a1 ⟨by decide, by decide⟩ (v := (.int bx1.toInt8.toInt32)) rfl rfl rfl (hb hby at_258) k) ?_
            show own_Go p e below _ T24 (mkF m 259 #[iv p0, iv p1, iv p2, iv p3, iv p4, iv p5, iv 4, iv bx0, iv bx1, iv bx2, iv bx3, iv bx4, iv bx5, iv bx6, rv a1, iv (own_bom bx0.toInt8.toInt32 bx1.toInt8.toInt32 bx2.toInt8.toInt32), iv mk, iv ex, .unset] [(.int bx1.toInt8.toInt32)])
            refine own_st (fun _ k => XS.iload X24.here hx rfl (hb hby at_259) rfl k) ?_
            show own_Go p e below _ T24 (mkF m 261 #[iv p0, iv p1, iv p2, iv p3, iv p4, iv p5, iv 4, iv bx0, iv bx1, iv bx2, iv bx3, iv bx4, iv bx5, iv bx6, rv a1, iv (own_bom bx0.toInt8.toInt32 bx1.toInt8.toInt32 bx2.toInt8.toInt32), iv mk, iv ex, .unset] [(.int bx1), (.int bx1.toInt8.toInt32)])
            refine own_st (fun _ k => XS.icmpNo X24.here hx rfl (hb hby at_261) rfl (XT.ii_ne_f ok1) k) ?_
            show own_Go p e below _ T24 (mkF m 264 #[iv p0, iv p1, iv p2, iv p3, iv p4, iv p5, iv 4, iv bx0, iv bx1, iv bx2, iv bx3, iv bx4, iv bx5, iv bx6, rv a1, iv (own_bom bx0.toInt8.toInt32 bx1.toInt8.toInt32 bx2.toInt8.toInt32), iv mk, iv ex, .unset] [])
            refine own_st (fun _ k => XS.iload X24.here hx rfl (hb hby at_264) rfl k) ?_
            show own_Go p e below _ T24 (mkF m 266 #[iv p0, iv p1, iv p2, iv p3, iv p4, iv p5, iv 4, iv bx0, iv bx1, iv bx2, iv bx3, iv bx4, iv bx5, iv bx6, rv a1, iv (own_bom bx0.toInt8.toInt32 bx1.toInt8.toInt32 bx2.toInt8.toInt32), iv mk, iv ex, .unset] [(.int 4)])
            refine own_st (fun _ k => XT.iconstV X24.here hx rfl (2 : Int32) (hb hby at_266) (by decide) k) ?_
            show own_Go p e below _ T24 (mkF m 267 #[iv p0, iv p1, iv p2, iv p3, iv p4, iv p5, iv 4, iv bx0, iv bx1, iv bx2, iv bx3, iv bx4, iv bx5, iv bx6, rv a1, iv (own_bom bx0.toInt8.toInt32 bx1.toInt8.toInt32 bx2.toInt8.toInt32), iv mk, iv ex, .unset] [(.int 2), (.int 4)])
            refine own_st (fun _ k => XS.icmpNo X24.here hx rfl (hb hby at_267) rfl (XT.ii_le_f (by decide)) k) ?_
            show own_Go p e below _ T24 (mkF m 270 #[iv p0, iv p1, iv p2, iv p3, iv p4, iv p5, iv 4, iv bx0, iv bx1, iv bx2, iv bx3, iv bx4, iv bx5, iv bx6, rv a1, iv (own_bom bx0.toInt8.toInt32 bx1.toInt8.toInt32 bx2.toInt8.toInt32), iv mk, iv ex, .unset] [])
            refine own_st (fun _ k => XS.aload X24.here hx rfl (hb hby at_270) rfl rfl k) ?_
            show own_Go p e below _ T24 (mkF m 272 #[iv p0, iv p1, iv p2, iv p3, iv p4, iv p5, iv 4, iv bx0, iv bx1, iv bx2, iv bx3, iv bx4, iv bx5, iv bx6, rv a1, iv (own_bom bx0.toInt8.toInt32 bx1.toInt8.toInt32 bx2.toInt8.toInt32), iv mk, iv ex, .unset] [(.ref a1)])
            refine own_st (fun _ k => XT.iconstV X24.here hx rfl (2 : Int32) (hb hby at_272) (by decide) k) ?_
            show own_Go p e below _ T24 (mkF m 273 #[iv p0, iv p1, iv p2, iv p3, iv p4, iv p5, iv 4, iv bx0, iv bx1, iv bx2, iv bx3, iv bx4, iv bx5, iv bx6, rv a1, iv (own_bom bx0.toInt8.toInt32 bx1.toInt8.toInt32 bx2.toInt8.toInt32), iv mk, iv ex, .unset] [(.int 2), (.ref a1)])
            refine own_st (fun _ k => own_ldB X24 hx hZ eh24 V23_a1 ⟨by decide, by decide⟩ (v := (.int bx2.toInt8.toInt32)) rfl rfl rfl (hb hby at_273) k) ?_
            show own_Go p e below _ T24 (mkF m 274 #[iv p0, iv p1, iv p2, iv p3, iv p4, iv p5, iv 4, iv bx0, iv bx1, iv bx2, iv bx3, iv bx4, iv bx5, iv bx6, rv a1, iv (own_bom bx0.toInt8.toInt32 bx1.toInt8.toInt32 bx2.toInt8.toInt32), iv mk, iv ex, .unset] [(.int bx2.toInt8.toInt32)])
            refine own_st (fun _ k => XS.iload X24.here hx rfl (hb hby at_274) rfl k) ?_
            show own_Go p e below _ T24 (mkF m 276 #[iv p0, iv p1, iv p2, iv p3, iv p4, iv p5, iv 4, iv bx0, iv bx1, iv bx2, iv bx3, iv bx4, iv bx5, iv bx6, rv a1, iv (own_bom bx0.toInt8.toInt32 bx1.toInt8.toInt32 bx2.toInt8.toInt32), iv mk, iv ex, .unset] [(.int bx2), (.int bx2.toInt8.toInt32)])
            refine own_st (fun _ k => XS.icmpNo X24.here hx rfl (hb hby at_276) rfl (XT.ii_ne_f ok2) k) ?_
            show own_Go p e below _ T24 (mkF m 279 #[iv p0, iv p1, iv p2, iv p3, iv p4, iv p5, iv 4, iv bx0, iv bx1, iv bx2, iv bx3, iv bx4, iv bx5, iv bx6, rv a1, iv (own_bom bx0.toInt8.toInt32 bx1.toInt8.toInt32 bx2.toInt8.toInt32), iv mk, iv ex, .unset] [])
            refine own_st (fun _ k => XS.iload X24.here hx rfl (hb hby at_279) rfl k) ?_
            show own_Go p e below _ T24 (mkF m 281 #[iv p0, iv p1, iv p2, iv p3, iv p4, iv p5, iv 4, iv bx0, iv bx1, iv bx2, iv bx3, iv bx4, iv bx5, iv bx6, rv a1, iv (own_bom bx0.toInt8.toInt32 bx1.toInt8.toInt32 bx2.toInt8.toInt32), iv mk, iv ex, .unset] [(.int 4)])
            refine own_st (fun _ k => XT.iconstV X24.here hx rfl (3 : Int32) (hb hby at_281) (by decide) k) ?_
            show own_Go p e below _ T24 (mkF m 282 #[iv p0, iv p1, iv p2, iv p3, iv p4, iv p5, iv 4, iv bx0, iv bx1, iv bx2, iv bx3, iv bx4, iv bx5, iv bx6, rv a1, iv (own_bom bx0.toInt8.toInt32 bx1.toInt8.toInt32 bx2.toInt8.toInt32), iv mk, iv ex, .unset] [(.int 3), (.int 4)])
            refine own_st (fun _ k => XS.icmpNo X24.here hx rfl (hb hby at_282) rfl (XT.ii_le_f (by decide)) k) ?_
            show own_Go p e below _ T24 (mkF m 285 #[iv p0, iv p1, iv p2, iv p3, iv p4, iv p5, iv 4, iv bx0, iv bx1, iv bx2, iv bx3, iv bx4, iv bx5, iv bx6, rv a1, iv (own_bom bx0.toInt8.toInt32 bx1.toInt8.toInt32 bx2.toInt8.toInt32), iv mk, iv ex, .unset] [])
            refine own_st (fun _ k => XS.aload X24.here hx rfl (hb hby at_285) rfl rfl k) ?_
            show own_Go p e below _ T24 (mkF m 287 #[iv p0, iv p1, iv p2, iv p3, iv p4, iv p5, iv 4, iv bx0, iv bx1, iv bx2, iv bx3, iv bx4, iv bx5, iv bx6, rv a1, iv (own_bom bx0.toInt8.toInt32 bx1.toInt8.toInt32 bx2.toInt8.toInt32), iv mk, iv ex, .unset] [(.ref a1)])
            refine own_st (fun _ k => XT.iconstV X24.here hx rfl (3 : Int32) (hb hby at_287) (by decide) k) ?_
            show own_Go p e below _ T24 (mkF m 288 #[iv p0, iv p1, iv p2, iv p3, iv p4, iv p5, iv 4, iv bx0, iv bx1, iv bx2, iv bx3, iv bx4, iv bx5, iv bx6, rv a1, iv (own_bom bx0.toInt8.toInt32 bx1.toInt8.toInt32 bx2.toInt8.toInt32), iv mk, iv ex, .unset] [(.int 3), (.ref a1)])
            refine own_st (fun _ k => own_ldB X24 hx hZ eh24 V23_a1 ⟨by decide, by decide⟩ (v := (.int bx3.toInt8.toInt32)) rfl rfl rfl (hb hby at_288) k) ?_
            show own_Go p e below _ T24 (mkF m 289 #[iv p0, iv p1, iv p2, iv p3, iv p4, iv p5, iv 4, iv bx0, iv bx1, iv bx2, iv bx3, iv bx4, iv bx5, iv bx6, rv a1, iv (own_bom bx0.toInt8.toInt32 bx1.toInt8.toInt32 bx2.toInt8.toInt32), iv mk, iv ex, .unset] [(.int bx3.toInt8.toInt32)])
            refine own_st (fun _ k => XS.iload X24.here hx rfl (hb hby at_289) rfl k) ?_
            show own_Go p e below _ T24 (mkF m 291 #[iv p0, iv p1, iv p2, iv p3, iv p4, iv p5, iv 4, iv bx0, iv bx1, iv bx2, iv bx3, iv bx4, iv bx5, iv bx6, rv a1, iv (own_bom bx0.toInt8.toInt32 bx1.toInt8.toInt32 bx2.toInt8.toInt32), iv mk, iv ex, .unset] [(.int bx3), (.int bx3.toInt8.toInt32)])
            refine own_st (fun _ k => XS.icmpNo X24.here hx rfl (hb hby at_291) rfl (XT.ii_ne_f ok3) k) ?_
            show own_Go p e below _ T24 (mkF m 294 #[iv p0, iv p1, iv p2, iv p3, iv p4, iv p5, iv 4, iv bx0, iv bx1, iv bx2, iv bx3, iv bx4, iv bx5, iv bx6, rv a1, iv (own_bom bx0.toInt8.toInt32 bx1.toInt8.toInt32 bx2.toInt8.toInt32), iv mk, iv ex, .unset] [])
            refine own_st (fun _ k => XT.iconstV X24.here hx rfl (1 : Int32) (hb hby at_294) (by decide) k) ?_
            show own_Go p e below _ T24 (mkF m 295 #[iv p0, iv p1, iv p2, iv p3, iv p4, iv p5, iv 4, iv bx0, iv bx1, iv bx2, iv bx3, iv bx4, iv bx5, iv bx6, rv a1, iv (own_bom bx0.toInt8.toInt32 bx1.toInt8.toInt32 bx2.toInt8.toInt32), iv mk, iv ex, .unset] [(.int 1)])
            refine own_st (fun _ k => XS.goto X24.here hx rfl (pc0 := 295) (pc' := 299) rfl (hb hby at_295) (by decide) (by decide) k) ?_
            show own_Go p e below _ T24 (mkF m 299 #[iv p0, iv p1, iv p2, iv p3, iv p4, iv p5, iv 4, iv bx0, iv bx1, iv bx2, iv bx3, iv bx4, iv bx5, iv bx6, rv a1, iv (own_bom bx0.toInt8.toInt32 bx1.toInt8.toInt32 bx2.toInt8.toInt32), iv mk, iv ex, .unset] [(.int 1)])
            refine own_st (fun _ k => XS.istore X24.here hx rfl (hb hby at_299) rfl (l' := #[iv p0, iv p1, iv p2, iv p3, iv p4, iv p5, iv 4, iv bx0, iv bx1, iv bx2, iv bx3, iv bx4, iv bx5, iv bx6, rv a1, iv (own_bom bx0.toInt8.toInt32 bx1.toInt8.toInt32 bx2.toInt8.toInt32), iv mk, iv ex, iv 1]) rfl k) ?_
            show own_Go p e below _ T24 (mkF m 301 #[iv p0, iv p1, iv p2, iv p3, iv p4, iv p5, iv 4, iv bx0, iv bx1, iv bx2, iv bx3, iv bx4, iv bx5, iv bx6, rv a1, iv (own_bom bx0.toInt8.toInt32 bx1.toInt8.toInt32 bx2.toInt8.toInt32), iv mk, iv ex, iv 1] [])
            refine own_st (fun _ k => XS.iload X24.here hx rfl (hb hby at_301) rfl k) ?_
            show own_Go p e below _ T24 (mkF m 303 #[iv p0, iv p1, iv p2, iv p3, iv p4, iv p5, iv 4, iv bx0, iv bx1, iv bx2, iv bx3, iv bx4, iv bx5, iv bx6, rv a1, iv (own_bom bx0.toInt8.toInt32 bx1.toInt8.toInt32 bx2.toInt8.toInt32), iv mk, iv ex, iv 1] [(.int (own_bom bx0.toInt8.toInt32 bx1.toInt8.toInt32 bx2.toInt8.toInt32))])
            refine own_st (fun _ k => XS.iload X24.here hx rfl (hb hby at_303) rfl k) ?_
            show own_Go p e below _ T24 (mkF m 305 #[iv p0, iv p1, iv p2, iv p3, iv p4, iv p5, iv 4, iv bx0, iv bx1, iv bx2, iv bx3, iv bx4, iv bx5, iv bx6, rv a1, iv (own_bom bx0.toInt8.toInt32 bx1.toInt8.toInt32 bx2.toInt8.toInt32), iv mk, iv ex, iv 1] [(.int ex), (.int (own_bom bx0.toInt8.toInt32 bx1.toInt8.toInt32 bx2.toInt8.toInt32))])
            refine own_st (fun _ k => XS.icmpNo X24.here hx rfl (hb hby at_305) rfl (XT.ii_ne_f hex.symm) k) ?_
            show own_Go p e below _ T24 (mkF m 308 #[iv p0, iv p1, iv p2, iv p3, iv p4, iv p5, iv 4, iv bx0, iv bx1, iv bx2, iv bx3, iv bx4, iv bx5, iv bx6, rv a1, iv (own_bom bx0.toInt8.toInt32 bx1.toInt8.toInt32 bx2.toInt8.toInt32), iv mk, iv ex, iv 1] [])
            refine own_st (fun _ k => XS.iload X24.here hx rfl (hb hby at_308) rfl k) ?_
            show own_Go p e below _ T24 (mkF m 310 #[iv p0, iv p1, iv p2, iv p3, iv p4, iv p5, iv 4, iv bx0, iv bx1, iv bx2, iv bx3, iv bx4, iv bx5, iv bx6, rv a1, iv (own_bom bx0.toInt8.toInt32 bx1.toInt8.toInt32 bx2.toInt8.toInt32), iv mk, iv ex, iv 1] [(.int 1)])
            refine own_st (fun _ k => XS.ifNo X24.here hx rfl (hb hby at_310) rfl (XT.i0_eq_f (by decide)) k) ?_
            show own_Go p e below _ T24 (mkF m 313 #[iv p0, iv p1, iv p2, iv p3, iv p4, iv p5, iv 4, iv bx0, iv bx1, iv bx2, iv bx3, iv bx4, iv bx5, iv bx6, rv a1, iv (own_bom bx0.toInt8.toInt32 bx1.toInt8.toInt32 bx2.toInt8.toInt32), iv mk, iv ex, iv 1] [])
            refine own_st (fun _ k => XT.iconstV X24.here hx rfl (1 : Int32) (hb hby at_313) (by decide) k) ?_
            show own_Go p e below _ T24 (mkF m 314 #[iv p0, iv p1, iv p2, iv p3, iv p4, iv p5, iv 4, iv bx0, iv bx1, iv bx2, iv bx3, iv bx4, iv bx5, iv bx6, rv a1, iv (own_bom bx0.toInt8.toInt32 bx1.toInt8.toInt32 bx2.toInt8.toInt32), iv mk, iv ex, iv 1] [(.int 1)])
            refine own_st (fun _ k => XS.goto X24.here hx rfl (pc0 := 314) (pc' := 318) rfl (hb hby at_314) (by decide) (by decide) k) ?_
            show own_Go p e below _ T24 (mkF m 318 #[iv p0, iv p1, iv p2, iv p3, iv p4, iv p5, iv 4, iv bx0, iv bx1, iv bx2, iv bx3, iv bx4, iv bx5, iv bx6, rv a1, iv (own_bom bx0.toInt8.toInt32 bx1.toInt8.toInt32 bx2.toInt8.toInt32), iv mk, iv ex, iv 1] [(.int 1)])
            refine own_retN X24 hx Bd.notSynchronized (t := .boolean) Bd.returns (by simp) (hb hby at_318) (by decide) (by decide) ?_
            rw [eh24]
            exact ⟨rfl, M24⟩
          refine own_st (fun _ k => XS.icmpNo X24.here hx rfl (hb hby at_184) rfl (XT.ii_lt_f (by decide)) k) ?_
          show own_Go p e below _ T24 (mkF m 187 #[iv p0, iv p1, iv p2, iv p3, iv p4, iv p5, iv 4, iv bx0, iv bx1, iv bx2, iv bx3, iv bx4, iv bx5, iv bx6, rv a1, iv (own_bom bx0.toInt8.toInt32 bx1.toInt8.toInt32 bx2.toInt8.toInt32), .unset, .unset, .unset] [])
          refine own_st (fun _ k => XS.iload X24.here hx rfl (hb hby at_187) rfl k) ?_
          show own_Go p e below _ T24 (mkF m 189 #[iv p0, iv p1, iv p2, iv p3, iv p4, iv p5, iv 4, iv bx0, iv bx1, iv bx2, iv bx3, iv bx4, iv bx5, iv bx6, rv a1, iv (own_bom bx0.toInt8.toInt32 bx1.toInt8.toInt32 bx2.toInt8.toInt32), .unset, .unset, .unset] [(.int bx0)])
          refine own_st (fun _ k => XT.bipushV X24.here hx rfl (-17 : Int32) (hb hby at_189) (by decide) k) ?_
          show own_Go p e below _ T24 (mkF m 191 #[iv p0, iv p1, iv p2, iv p3, iv p4, iv p5, iv 4, iv bx0, iv bx1, iv bx2, iv bx3, iv bx4, iv bx5, iv bx6, rv a1, iv (own_bom bx0.toInt8.toInt32 bx1.toInt8.toInt32 bx2.toInt8.toInt32), .unset, .unset, .unset] [(.int (-17)), (.int bx0)])
          by_cases cm0 : bx0 = (-17 : Int32)
          · refine own_st (fun _ k => XS.icmpNo X24.here hx rfl (hb hby at_191) rfl (XT.ii_ne_f cm0) k) ?_
            show own_Go p e below _ T24 (mkF m 194 #[iv p0, iv p1, iv p2, iv p3, iv p4, iv p5, iv 4, iv bx0, iv bx1, iv bx2, iv bx3, iv bx4, iv bx5, iv bx6, rv a1, iv (own_bom bx0.toInt8.toInt32 bx1.toInt8.toInt32 bx2.toInt8.toInt32), .unset, .unset, .unset] [])
            refine own_st (fun _ k => XS.iload X24.here hx rfl (hb hby at_194) rfl k) ?_
            show own_Go p e below _ T24 (mkF m 196 #[iv p0, iv p1, iv p2, iv p3, iv p4, iv p5, iv 4, iv bx0, iv bx1, iv bx2, iv bx3, iv bx4, iv bx5, iv bx6, rv a1, iv (own_bom bx0.toInt8.toInt32 bx1.toInt8.toInt32 bx2.toInt8.toInt32), .unset, .unset, .unset] [(.int bx1)])
            refine own_st (fun _ k => XT.bipushV X24.here hx rfl (-69 : Int32) (hb hby at_196) (by decide) k) ?_
            show own_Go p e below _ T24 (mkF m 198 #[iv p0, iv p1, iv p2, iv p3, iv p4, iv p5, iv 4, iv bx0, iv bx1, iv bx2, iv bx3, iv bx4, iv bx5, iv bx6, rv a1, iv (own_bom bx0.toInt8.toInt32 bx1.toInt8.toInt32 bx2.toInt8.toInt32), .unset, .unset, .unset] [(.int (-69)), (.int bx1)])
            by_cases cm1 : bx1 = (-69 : Int32)
            · refine own_st (fun _ k => XS.icmpNo X24.here hx rfl (hb hby at_198) rfl (XT.ii_ne_f cm1) k) ?_
              show own_Go p e below _ T24 (mkF m 201 #[iv p0, iv p1, iv p2, iv p3, iv p4, iv p5, iv 4, iv bx0, iv bx1, iv bx2, iv bx3, iv bx4, iv bx5, iv bx6, rv a1, iv (own_bom bx0.toInt8.toInt32 bx1.toInt8.toInt32 bx2.toInt8.toInt32), .unset, .unset, .unset] [])
              refine own_st (fun _ k => XS.iload X24.here hx rfl (hb hby at_201) rfl k) ?_
              show own_Go p e below _ T24 (mkF m 203 #[iv p0, iv p1, iv p2, iv p3, iv p4, iv p5, iv 4, iv bx0, iv bx1, iv bx2, iv bx3, iv bx4, iv bx5, iv bx6, rv a1, iv (own_bom bx0.toInt8.toInt32 bx1.toInt8.toInt32 bx2.toInt8.toInt32), .unset, .unset, .unset] [(.int bx2)])
              refine own_st (fun _ k => XT.bipushV X24.here hx rfl (-65 : Int32) (hb hby at_203) (by decide) k) ?_
              show own_Go p e below _ T24 (mkF m 205 #[iv p0, iv p1, iv p2, iv p3, iv p4, iv p5, iv 4, iv bx0, iv bx1, iv bx2, iv bx3, iv bx4, iv bx5, iv bx6, rv a1, iv (own_bom bx0.toInt8.toInt32 bx1.toInt8.toInt32 bx2.toInt8.toInt32), .unset, .unset, .unset] [(.int (-65)), (.int bx2)])
              by_cases cm2 : bx2 = (-65 : Int32)
              · refine own_st (fun _ k => XS.icmpNo X24.here hx rfl (hb hby at_205) rfl (XT.ii_ne_f cm2) k) ?_
                show own_Go p e below _ T24 (mkF m 208 #[iv p0, iv p1, iv p2, iv p3, iv p4, iv p5, iv 4, iv bx0, iv bx1, iv bx2, iv bx3, iv bx4, iv bx5, iv bx6, rv a1, iv (own_bom bx0.toInt8.toInt32 bx1.toInt8.toInt32 bx2.toInt8.toInt32), .unset, .unset, .unset] [])
                refine own_st (fun _ k => XT.iconstV X24.here hx rfl (1 : Int32) (hb hby at_208) (by decide) k) ?_
                show own_Go p e below _ T24 (mkF m 209 #[iv p0, iv p1, iv p2, iv p3, iv p4, iv p5, iv 4, iv bx0, iv bx1, iv bx2, iv bx3, iv bx4, iv bx5, iv bx6, rv a1, iv (own_bom bx0.toInt8.toInt32 bx1.toInt8.toInt32 bx2.toInt8.toInt32), .unset, .unset, .unset] [(.int 1)])
                refine own_st (fun _ k => XS.goto X24.here hx rfl (pc0 := 209) (pc' := 213) rfl (hb hby at_209) (by decide) (by decide) k) ?_
                show own_Go p e below _ T24 (mkF m 213 #[iv p0, iv p1, iv p2, iv p3, iv p4, iv p5, iv 4, iv bx0, iv bx1, iv bx2, iv bx3, iv bx4, iv bx5, iv bx6, rv a1, iv (own_bom bx0.toInt8.toInt32 bx1.toInt8.toInt32 bx2.toInt8.toInt32), .unset, .unset, .unset] [(.int 1)])
                refine own_st (fun _ k => XS.istore X24.here hx rfl (hb hby at_213) rfl (l' := #[iv p0, iv p1, iv p2, iv p3, iv p4, iv p5, iv 4, iv bx0, iv bx1, iv bx2, iv bx3, iv bx4, iv bx5, iv bx6, rv a1, iv (own_bom bx0.toInt8.toInt32 bx1.toInt8.toInt32 bx2.toInt8.toInt32), iv 1, .unset, .unset]) rfl k) ?_
                show own_Go p e below _ T24 (mkF m 215 #[iv p0, iv p1, iv p2, iv p3, iv p4, iv p5, iv 4, iv bx0, iv bx1, iv bx2, iv bx3, iv bx4, iv bx5, iv bx6, rv a1, iv (own_bom bx0.toInt8.toInt32 bx1.toInt8.toInt32 bx2.toInt8.toInt32), iv 1, .unset, .unset] [])
                refine own_st (fun _ k => XS.iload X24.here hx rfl (hb hby at_215) rfl k) ?_
                show own_Go p e below _ T24 (mkF m 217 #[iv p0, iv p1, iv p2, iv p3, iv p4, iv p5, iv 4, iv bx0, iv bx1, iv bx2, iv bx3, iv bx4, iv bx5, iv bx6, rv a1, iv (own_bom bx0.toInt8.toInt32 bx1.toInt8.toInt32 bx2.toInt8.toInt32), iv 1, .unset, .unset] [(.int 1)])
                refine own_st (fun _ k => XS.ifNo X24.here hx rfl (hb hby at_217) rfl (XT.i0_eq_f (by decide)) k) ?_
                show own_Go p e below _ T24 (mkF m 220 #[iv p0, iv p1, iv p2, iv p3, iv p4, iv p5, iv 4, iv bx0, iv bx1, iv bx2, iv bx3, iv bx4, iv bx5, iv bx6, rv a1, iv (own_bom bx0.toInt8.toInt32 bx1.toInt8.toInt32 bx2.toInt8.toInt32), iv 1, .unset, .unset] [])
                refine own_st (fun _ k => XT.iconstV X24.here hx rfl (3 : Int32) (hb hby at_220) (by decide) k) ?_
                show own_Go p e below _ T24 (mkF m 221 #[iv p0, iv p1, iv p2, iv p3, iv p4, iv p5, iv 4, iv bx0, iv bx1, iv bx2, iv bx3, iv bx4, iv bx5, iv bx6, rv a1, iv (own_bom bx0.toInt8.toInt32 bx1.toInt8.toInt32 bx2.toInt8.toInt32), iv 1, .unset, .unset] [(.int 3)])
                refine own_st (fun _ k => XS.goto X24.here hx rfl (pc0 := 221) (pc' := 225) rfl (hb hby at_221) (by decide) (by decide) k) ?_
                show own_Go p e below _ T24 (mkF m 225 #[iv p0, iv p1, iv p2, iv p3, iv p4, iv p5, iv 4, iv bx0, iv bx1, iv bx2, iv bx3, iv bx4, iv bx5, iv bx6, rv a1, iv (own_bom bx0.toInt8.toInt32 bx1.toInt8.toInt32 bx2.toInt8.toInt32), iv 1, .unset, .unset] [(.int 3)])
                refine own_st (fun _ k => XS.istore X24.here hx rfl (hb hby at_225) rfl (l' := #[iv p0, iv p1, iv p2, iv p3, iv p4, iv p5, iv 4, iv bx0, iv bx1, iv bx2, iv bx3, iv bx4, iv bx5, iv bx6, rv a1, iv (own_bom bx0.toInt8.toInt32 bx1.toInt8.toInt32 bx2.toInt8.toInt32), iv 1, iv 3, .unset]) rfl k) ?_
                show own_Go p e below _ T24 (mkF m 227 #[iv p0, iv p1, iv p2, iv p3, iv p4, iv p5, iv 4, iv bx0, iv bx1, iv bx2, iv bx3, iv bx4, iv bx5, iv bx6, rv a1, iv (own_bom bx0.toInt8.toInt32 bx1.toInt8.toInt32 bx2.toInt8.toInt32), iv 1, iv 3, .unset] [])
                exact KE _ _ (by simp [own_bom, ok0, ok1, ok2, cm0, cm1, cm2])
              · refine own_st (fun _ k => XS.icmpYes X24.here hx rfl (pc0 := 205) (pc' := 212) rfl (hb hby at_205) rfl (XT.ii_ne_t cm2) (by decide) (by decide) k) ?_
                show own_Go p e below _ T24 (mkF m 212 #[iv p0, iv p1, iv p2, iv p3, iv p4, iv p5, iv 4, iv bx0, iv bx1, iv bx2, iv bx3, iv bx4, iv bx5, iv bx6, rv a1, iv (own_bom bx0.toInt8.toInt32 bx1.toInt8.toInt32 bx2.toInt8.toInt32), .unset, .unset, .unset] [])
                refine own_st (fun _ k => XT.iconstV X24.here hx rfl (0 : Int32) (hb hby at_212) (by decide) k) ?_
                show own_Go p e below _ T24 (mkF m 213 #[iv p0, iv p1, iv p2, iv p3, iv p4, iv p5, iv 4, iv bx0, iv bx1, iv bx2, iv bx3, iv bx4, iv bx5, iv bx6, rv a1, iv (own_bom bx0.toInt8.toInt32 bx1.toInt8.toInt32 bx2.toInt8.toInt32), .unset, .unset, .unset] [(.int 0)])
                refine own_st (fun _ k => XS.istore X24.here hx rfl (hb hby at_213) rfl (l' := #[iv p0, iv p1, iv p2, iv p3, iv p4, iv p5, iv 4, iv bx0, iv bx1, iv bx2, iv bx3, iv bx4, iv bx5, iv bx6, rv a1, iv (own_bom bx0.toInt8.toInt32 bx1.toInt8.toInt32 bx2.toInt8.toInt32), iv 0, .unset, .unset]) rfl k) ?_
                show own_Go p e below _ T24 (mkF m 215 #[iv p0, iv p1, iv p2, iv p3, iv p4, iv p5, iv 4, iv bx0, iv bx1, iv bx2, iv bx3, iv bx4, iv bx5, iv bx6, rv a1, iv (own_bom bx0.toInt8.toInt32 bx1.toInt8.toInt32 bx2.toInt8.toInt32), iv 0, .unset, .unset] [])
                refine own_st (fun _ k => XS.iload X24.here hx rfl (hb hby at_215) rfl k) ?_
                show own_Go p e below _ T24 (mkF m 217 #[iv p0, iv p1, iv p2, iv p3, iv p4, iv p5, iv 4, iv bx0, iv bx1, iv bx2, iv bx3, iv bx4, iv bx5, iv bx6, rv a1, iv (own_bom bx0.toInt8.toInt32 bx1.toInt8.toInt32 bx2.toInt8.toInt32), iv 0, .unset, .unset] [(.int 0)])
                refine own_st (fun _ k => XS.ifYes X24.here hx rfl (pc0 := 217) (pc' := 224) rfl (hb hby at_217) rfl (XT.i0_eq_t (by decide)) (by decide) (by decide) k) ?_
                show own_Go p e below _ T24 (mkF m 224 #[iv p0, iv p1, iv p2, iv p3, iv p4, iv p5, iv 4, iv bx0, iv bx1, iv bx2, iv bx3, iv bx4, iv bx5, iv bx6, rv a1, iv (own_bom bx0.toInt8.toInt32 bx1.toInt8.toInt32 bx2.toInt8.toInt32), iv 0, .unset, .unset] [])
                refine own_st (fun _ k => XT.iconstV X24.here hx rfl (0 : Int32) (hb hby at_224) (by decide) k) ?_
                show own_Go p e below _ T24 (mkF m 225 #[iv p0, iv p1, iv p2, iv p3, iv p4, iv p5, iv 4, iv bx0, iv bx1, iv bx2, iv bx3, iv bx4, iv bx5, iv bx6, rv a1, iv (own_bom bx0.toInt8.toInt32 bx1.toInt8.toInt32 bx2.toInt8.toInt32), iv 0, .unset, .unset] [(.int 0)])
                refine own_st (fun _ k => XS.istore X24.here hx rfl (hb hby at_225) rfl (l' := #[iv p0, iv p1, iv p2, iv p3, iv p4, iv p5, iv 4, iv bx0, iv bx1, iv bx2, iv bx3, iv bx4, iv bx5, iv bx6, rv a1, iv (own_bom bx0.toInt8.toInt32 bx1.toInt8.toInt32 bx2.toInt8.toInt32), iv 0, iv 0, .unset]) rfl k) ?_
                show own_Go p e below _ T24 (mkF m 227 #[iv p0, iv p1, iv p2, iv p3, iv p4, iv p5, iv 4, iv bx0, iv bx1, iv bx2, iv bx3, iv bx4, iv bx5, iv bx6, rv a1, iv (own_bom bx0.toInt8.toInt32 bx1.toInt8.toInt32 bx2.toInt8.toInt32), iv 0, iv 0, .unset] [])
                exact KE _ _ (by simp [own_bom, ok0, ok1, ok2, cm0, cm1, cm2])
            · refine own_st (fun _ k => XS.icmpYes X24.here hx rfl (pc0 := 198) (pc' := 212) rfl (hb hby at_198) rfl (XT.ii_ne_t cm1) (by decide) (by decide) k) ?_
              show own_Go p e below _ T24 (mkF m 212 #[iv p0, iv p1, iv p2, iv p3, iv p4, iv p5, iv 4, iv bx0, iv bx1, iv bx2, iv bx3, iv bx4, iv bx5, iv bx6, rv a1, iv (own_bom bx0.toInt8.toInt32 bx1.toInt8.toInt32 bx2.toInt8.toInt32), .unset, .unset, .unset] [])
              refine own_st (fun _ k => XT.iconstV X24.here hx rfl (0 : Int32) (hb hby at_212) (by decide) k) ?_
              show own_Go p e below _ T24 (mkF m 213 #[iv p0, iv p1, iv p2, iv p3, iv p4, iv p5, iv 4, iv bx0, iv bx1, iv bx2, iv bx3, iv bx4, iv bx5, iv bx6, rv a1, iv (own_bom bx0.toInt8.toInt32 bx1.toInt8.toInt32 bx2.toInt8.toInt32), .unset, .unset, .unset] [(.int 0)])
              refine own_st (fun _ k => XS.istore X24.here hx rfl (hb hby at_213) rfl (l' := #[iv p0, iv p1, iv p2, iv p3, iv p4, iv p5, iv 4, iv bx0, iv bx1, iv bx2, iv bx3, iv bx4, iv bx5, iv bx6, rv a1, iv (own_bom bx0.toInt8.toInt32 bx1.toInt8.toInt32 bx2.toInt8.toInt32), iv 0, .unset, .unset]) rfl k) ?_
              show own_Go p e below _ T24 (mkF m 215 #[iv p0, iv p1, iv p2, iv p3, iv p4, iv p5, iv 4, iv bx0, iv bx1, iv bx2, iv bx3, iv bx4, iv bx5, iv bx6, rv a1, iv (own_bom bx0.toInt8.toInt32 bx1.toInt8.toInt32 bx2.toInt8.toInt32), iv 0, .unset, .unset] [])
              refine own_st (fun _ k => XS.iload X24.here hx rfl (hb hby at_215) rfl k) ?_
              show own_Go p e below _ T24 (mkF m 217 #[iv p0, iv p1, iv p2, iv p3, iv p4, iv p5, iv 4, iv bx0, iv bx1, iv bx2, iv bx3, iv bx4, iv bx5, iv bx6, rv a1, iv (own_bom bx0.toInt8.toInt32 bx1.toInt8.toInt32 bx2.toInt8.toInt32), iv 0, .unset, .unset] [(.int 0)])
              refine own_st (fun _ k => XS.ifYes X24.here hx rfl (pc0 := 217) (pc' := 224) rfl (hb hby at_217) rfl (XT.i0_eq_t (by decide)) (by decide) (by decide) k) ?_
              show own_Go p e below _ T24 (mkF m 224 #[iv p0, iv p1, iv p2, iv p3, iv p4, iv p5, iv 4, iv bx0, iv bx1, iv bx2, iv bx3, iv bx4, iv bx5, iv bx6, rv a1, iv (own_bom bx0.toInt8.toInt32 bx1.toInt8.toInt32 bx2.toInt8.toInt32), iv 0, .unset, .unset] [])
              refine own_st (fun _ k => XT.iconstV X24.here hx rfl (0 : Int32) (hb hby at_224) (by decide) k) ?_
              show own_Go p e below _ T24 (mkF m 225 #[iv p0, iv p1, iv p2, iv p3, iv p4, iv p5, iv 4, iv bx0, iv bx1, iv bx2, iv bx3, iv bx4, iv bx5, iv bx6, rv a1, iv (own_bom bx0.toInt8.toInt32 bx1.toInt8.toInt32 bx2.toInt8.toInt32), iv 0, .unset, .unset] [(.int 0)])
              refine own_st (fun _ k => XS.istore X24.here hx rfl (hb hby at_225) rfl (l' := #[iv p0, iv p1, iv p2, iv p3, iv p4, iv p5, iv 4, iv bx0, iv bx1, iv bx2, iv bx3, iv bx4, iv bx5, iv bx6, rv a1, iv (own_bom bx0.toInt8.toInt32 bx1.toInt8.toInt32 bx2.toInt8.toInt32), iv 0, iv 0, .unset]) rfl k) ?_
              show own_Go p e below _ T24 (mkF m 227 #[iv p0, iv p1, iv p2, iv p3, iv p4, iv p5, iv 4, iv bx0, iv bx1, iv bx2, iv bx3, iv bx4, iv bx5, iv bx6, rv a1, iv (own_bom bx0.toInt8.toInt32 bx1.toInt8.toInt32 bx2.toInt8.toInt32), iv 0, iv 0, .unset] [])
              exact KE _ _ (by simp [own_bom, ok0, ok1, ok2, cm0, cm1])
          · refine own_st (fun _ k => XS.icmpYes X24.here hx rfl (pc0 := 191) (pc' := 212) rfl (hb hby at_191) rfl (XT.ii_ne_t cm0) (by decide) (by decide) k) ?_
            show own_Go p e below _ T24 (mkF m 212 #[iv p0, iv p1, iv p2, iv p3, iv p4, iv p5, iv 4, iv bx0, iv bx1, iv bx2, iv bx3, iv bx4, iv bx5, iv bx6, rv a1, iv (own_bom bx0.toInt8.toInt32 bx1.toInt8.toInt32 bx2.toInt8.toInt32), .unset, .unset, .unset] [])
            refine own_st (fun _ k => XT.iconstV X24.here hx rfl (0 : Int32) (hb hby at_212) (by decide) k) ?_
            show own_Go p e below _ T24 (mkF m 213 #[iv p0, iv p1, iv p2, iv p3, iv p4, iv p5, iv 4, iv bx0, iv bx1, iv bx2, iv bx3, iv bx4, iv bx5, iv bx6, rv a1, iv (own_bom bx0.toInt8.toInt32 bx1.toInt8.toInt32 bx2.toInt8.toInt32), .unset, .unset, .unset] [(.int 0)])
            refine own_st (fun _ k => XS.istore X24.here hx rfl (hb hby at_213) rfl (l' := #[iv p0, iv p1, iv p2, iv p3, iv p4, iv p5, iv 4, iv bx0, iv bx1, iv bx2, iv bx3, iv bx4, iv bx5, iv bx6, rv a1, iv (own_bom bx0.toInt8.toInt32 bx1.toInt8.toInt32 bx2.toInt8.toInt32), iv 0, .unset, .unset]) rfl k) ?_
            show own_Go p e below _ T24 (mkF m 215 #[iv p0, iv p1, iv p2, iv p3, iv p4, iv p5, iv 4, iv bx0, iv bx1, iv bx2, iv bx3, iv bx4, iv bx5, iv bx6, rv a1, iv (own_bom bx0.toInt8.toInt32 bx1.toInt8.toInt32 bx2.toInt8.toInt32), iv 0, .unset, .unset] [])
            refine own_st (fun _ k => XS.iload X24.here hx rfl (hb hby at_215) rfl k) ?_
            show own_Go p e below _ T24 (mkF m 217 #[iv p0, iv p1, iv p2, iv p3, iv p4, iv p5, iv 4, iv bx0, iv bx1, iv bx2, iv bx3, iv bx4, iv bx5, iv bx6, rv a1, iv (own_bom bx0.toInt8.toInt32 bx1.toInt8.toInt32 bx2.toInt8.toInt32), iv 0, .unset, .unset] [(.int 0)])
            refine own_st (fun _ k => XS.ifYes X24.here hx rfl (pc0 := 217) (pc' := 224) rfl (hb hby at_217) rfl (XT.i0_eq_t (by decide)) (by decide) (by decide) k) ?_
            show own_Go p e below _ T24 (mkF m 224 #[iv p0, iv p1, iv p2, iv p3, iv p4, iv p5, iv 4, iv bx0, iv bx1, iv bx2, iv bx3, iv bx4, iv bx5, iv bx6, rv a1, iv (own_bom bx0.toInt8.toInt32 bx1.toInt8.toInt32 bx2.toInt8.toInt32), iv 0, .unset, .unset] [])
            refine own_st (fun _ k => XT.iconstV X24.here hx rfl (0 : Int32) (hb hby at_224) (by decide) k) ?_
            show own_Go p e below _ T24 (mkF m 225 #[iv p0, iv p1, iv p2, iv p3, iv p4, iv p5, iv 4, iv bx0, iv bx1, iv bx2, iv bx3, iv bx4, iv bx5, iv bx6, rv a1, iv (own_bom bx0.toInt8.toInt32 bx1.toInt8.toInt32 bx2.toInt8.toInt32), iv 0, .unset, .unset] [(.int 0)])
            refine own_st (fun _ k => XS.istore X24.here hx rfl (hb hby at_225) rfl (l' := #[iv p0, iv p1, iv p2, iv p3, iv p4, iv p5, iv 4, iv bx0, iv bx1, iv bx2, iv bx3, iv bx4, iv bx5, iv bx6, rv a1, iv (own_bom bx0.toInt8.toInt32 bx1.toInt8.toInt32 bx2.toInt8.toInt32), iv 0, iv 0, .unset]) rfl k) ?_
            show own_Go p e below _ T24 (mkF m 227 #[iv p0, iv p1, iv p2, iv p3, iv p4, iv p5, iv 4, iv bx0, iv bx1, iv bx2, iv bx3, iv bx4, iv bx5, iv bx6, rv a1, iv (own_bom bx0.toInt8.toInt32 bx1.toInt8.toInt32 bx2.toInt8.toInt32), iv 0, iv 0, .unset] [])
            exact KE _ _ (by simp [own_bom, ok0, ok1, ok2, cm0])
        · show own_Go p e below _ s₁ (mkF m 85 #[iv p0, iv p1, iv p2, iv p3, iv p4, iv p5, iv 5, iv bx0, iv bx1, iv bx2, iv bx3, iv bx4, iv bx5, iv bx6, .unset, .unset, .unset, .unset, .unset] [(.int 5)])
          obtain ⟨T26, h26, k_a1, X26, e26, x26, A26, st26⟩ := newP X0 hx hZ (hw _ (List.mem_of_getElem? (i := 0) rfl)) e0 (g := (mkF m 85 #[iv p0, iv p1, iv p2, iv p3, iv p4, iv p5, iv 5, iv bx0, iv bx1, iv bx2, iv bx3, iv bx4, iv bx5, iv bx6, .unset, .unset, .unset, .unset, .unset] [(.int 5)])) rfl (hb hby at_85) rfl (by decide) (cap := 5) (by decide) (by decide) (by decide) (by decide)
          obtain ⟨a1, g26⟩ : ∃ z, z = h0.size := ⟨_, rfl⟩
          rw [← g26] at A26 st26
          have g_a1 : n0 ≤ a1 := g26 ▸ Z0
          have O26 := O0.ext x26
          have Z26 : n0 ≤ h26.size := Nat.le_trans Z0 x26.1
          clear O0 Z0
          have V26_a1 : Arv Z h26 a1 k_a1 .byte (5 : Int32) [(.int 0), (.int 0), (.int 0), (.int 0), (.int 0)] (.int 0) := (Arv.new A26 (by decide)).pad (pad_rep [] (.int 0) 5)
          clear X0 e0
          refine own_st st26 ?_
          clear st26
          show own_Go p e below _ T26 (mkF m 87 #[iv p0, iv p1, iv p2, iv p3, iv p4, iv p5, iv 5, iv bx0, iv bx1, iv bx2, iv bx3, iv bx4, iv bx5, iv bx6, .unset, .unset, .unset, .unset, .unset] [(.ref a1)])
          refine own_st (fun _ k => XS.astore X26.here hx rfl (hb hby at_87) rfl rfl (l' := #[iv p0, iv p1, iv p2, iv p3, iv p4, iv p5, iv 5, iv bx0, iv bx1, iv bx2, iv bx3, iv bx4, iv bx5, iv bx6, rv a1, .unset, .unset, .unset, .unset]) rfl k) ?_
          show own_Go p e below _ T26 (mkF m 89 #[iv p0, iv p1, iv p2, iv p3, iv p4, iv p5, iv 5, iv bx0, iv bx1, iv bx2, iv bx3, iv bx4, iv bx5, iv bx6, rv a1, .unset, .unset, .unset, .unset] [])
          refine own_st (fun _ k => XS.iload X26.here hx rfl (hb hby at_89) rfl k) ?_
          show own_Go p e below _ T26 (mkF m 91 #[iv p0, iv p1, iv p2, iv p3, iv p4, iv p5, iv 5, iv bx0, iv bx1, iv bx2, iv bx3, iv bx4, iv bx5, iv bx6, rv a1, .unset, .unset, .unset, .unset] [(.int 5)])
          refine own_st (fun _ k => XS.ifNo X26.here hx rfl (hb hby at_91) rfl (XT.i0_le_f (by decide)) k) ?_
          show own_Go p e below _ T26 (mkF m 94 #[iv p0, iv p1, iv p2, iv p3, iv p4, iv p5, iv 5, iv bx0, iv bx1, iv bx2, iv bx3, iv bx4, iv bx5, iv bx6, rv a1, .unset, .unset, .unset, .unset] [])
          refine own_st (fun _ k => XS.aload X26.here hx rfl (hb hby at_94) rfl rfl k) ?_
          show own_Go p e below _ T26 (mkF m 96 #[iv p0, iv p1, iv p2, iv p3, iv p4, iv p5, iv 5, iv bx0, iv bx1, iv bx2, iv bx3, iv bx4, iv bx5, iv bx6, rv a1, .unset, .unset, .unset, .unset] [(.ref a1)])
          refine own_st (fun _ k => XT.iconstV X26.here hx rfl (0 : Int32) (hb hby at_96) (by decide) k) ?_
          show own_Go p e below _ T26 (mkF m 97 #[iv p0, iv p1, iv p2, iv p3, iv p4, iv p5, iv 5, iv bx0, iv bx1, iv bx2, iv bx3, iv bx4, iv bx5, iv bx6, rv a1, .unset, .unset, .unset, .unset] [(.int 0), (.ref a1)])
          refine own_st (fun _ k => XS.iload X26.here hx rfl (hb hby at_97) rfl k) ?_
          show own_Go p e below _ T26 (mkF m 99 #[iv p0, iv p1, iv p2, iv p3, iv p4, iv p5, iv 5, iv bx0, iv bx1, iv bx2, iv bx3, iv bx4, iv bx5, iv bx6, rv a1, .unset, .unset, .unset, .unset] [(.int bx0), (.int 0), (.ref a1)])
          obtain ⟨T27, h27, X27, e27, W27, V27, st27⟩ := own_stB X26 hx hZ e26 V26_a1 (j := (0 : Int32)) ⟨by decide, by decide⟩ 0 rfl (Nat.le_of_ble_eq_true rfl) (g := (mkF m 99 #[iv p0, iv p1, iv p2, iv p3, iv p4, iv p5, iv 5, iv bx0, iv bx1, iv bx2, iv bx3, iv bx4, iv bx5, iv bx6, rv a1, .unset, .unset, .unset, .unset] [(.int bx0), (.int 0), (.ref a1)])) rfl rfl (hb hby at_99)
          have V27_a1 : Arv Z h27 a1 k_a1 .byte (5 : Int32) [(.int bx0.toInt8.toInt32), (.int 0), (.int 0), (.int 0), (.int 0)] (.int 0) := V27
          have O27 := O26.wr W27 g_a1
          have Z27 : n0 ≤ h27.size := by rw [W27.size]; exact Z26
          clear O26 Z26 V26_a1 W27
          have N27 := Fr.snoc X27 N0 g_a1
          clear X26 e26
          refine own_st st27 ?_
          clear st27
          show own_Go p e below _ T27 (mkF m 100 #[iv p0, iv p1, iv p2, iv p3, iv p4, iv p5, iv 5, iv bx0, iv bx1, iv bx2, iv bx3, iv bx4, iv bx5, iv bx6, rv a1, .unset, .unset, .unset, .unset] [])
          refine own_st (fun _ k => XS.iload X27.here hx rfl (hb hby at_100) rfl k) ?_
          show own_Go p e below _ T27 (mkF m 102 #[iv p0, iv p1, iv p2, iv p3, iv p4, iv p5, iv 5, iv bx0, iv bx1, iv bx2, iv bx3, iv bx4, iv bx5, iv bx6, rv a1, .unset, .unset, .unset, .unset] [(.int 5)])
          refine own_st (fun _ k => XT.iconstV X27.here hx rfl (1 : Int32) (hb hby at_102) (by decide) k) ?_
          show own_Go p e below _ T27 (mkF m 103 #[iv p0, iv p1, iv p2, iv p3, iv p4, iv p5, iv 5, iv bx0, iv bx1, iv bx2, iv bx3, iv bx4, iv bx5, iv bx6, rv a1, .unset, .unset, .unset, .unset] [(.int 1), (.int 5)])
          refine own_st (fun _ k => XS.icmpNo X27.here hx rfl (hb hby at_103) rfl (XT.ii_le_f (by decide)) k) ?_
          show own_Go p e below _ T27 (mkF m 106 #[iv p0, iv p1, iv p2, iv p3, iv p4, iv p5, iv 5, iv bx0, iv bx1, iv bx2, iv bx3, iv bx4, iv bx5, iv bx6, rv a1, .unset, .unset, .unset, .unset] [])
          refine own_st (fun _ k => XS.aload X27.here hx rfl (hb hby at_106) rfl rfl k) ?_
          show own_Go p e below _ T27 (mkF m 108 #[iv p0, iv p1, iv p2, iv p3, iv p4, iv p5, iv 5, iv bx0, iv bx1, iv bx2, iv bx3, iv bx4, iv bx5, iv bx6, rv a1, .unset, .unset, .unset, .unset] [(.ref a1)])
          refine own_st (fun _ k => XT.iconstV X27.here hx rfl (1 : Int32) (hb hby at_108) (by decide) k) ?_
          show own_Go p e below _ T27 (mkF m 109 #[iv p0, iv p1, iv p2, iv p3, iv p4, iv p5, iv 5, iv bx0, iv bx1, iv bx2, iv bx3, iv bx4, iv bx5, iv bx6, rv a1, .unset, .unset, .unset, .unset] [(.int 1), (.ref a1)])
          refine own_st (fun _ k => XS.iload X27.here hx rfl (hb hby at_109) rfl k) ?_
          show own_Go p e below _ T27 (mkF m 111 #[iv p0, iv p1, iv p2, iv p3, iv p4, iv p5, iv 5, iv bx0, iv bx1, iv bx2, iv bx3, iv bx4, iv bx5, iv bx6, rv a1, .unset, .unset, .unset, .unset] [(.int bx1), (.int 1), (.ref a1)])
          obtain ⟨T28, h28, X28, e28, W28, V28, st28⟩ := own_stB X27 hx hZ e27 V27_a1 (j := (1 : Int32)) ⟨by decide, by decide⟩ 1 rfl (Nat.le_of_ble_eq_true rfl) (g := (mkF m 111 #[iv p0, iv p1, iv p2, iv p3, iv p4, iv p5, iv 5, iv bx0, iv bx1, iv bx2, iv bx3, iv bx4, iv bx5, iv bx6, rv a1, .unset, .unset, .unset, .unset] [(.int bx1), (.int 1), (.ref a1)])) rfl rfl (hb hby at_111)
          have V28_a1 : Arv Z h28 a1 k_a1 .byte (5 : Int32) [(.int bx0.toInt8.toInt32), (.int bx1.toInt8.toInt32), (.int 0), (.int 0), (.int 0)] (.int 0) := V28
          have O28 := O27.wr W28 g_a1
          have Z28 : n0 ≤ h28.size := by rw [W28.size]; exact Z27
          clear O27 Z27 V27_a1 W28
          have N28 := Fr.snoc X28 N27 g_a1
          clear X27 e27
          refine own_st st28 ?_
          clear st28
          show own_Go p e below _ T28 (mkF m 112 #[iv p0, iv p1, iv p2, iv p3, iv p4, iv p5, iv 5, iv bx0, iv bx1, iv bx2, iv bx3, iv bx4, iv bx5, iv bx6, rv a1, .unset, .unset, .unset, .unset] [])
          refine own_st (fun _ k => XS.iload X28.here hx rfl (hb hby at_112) rfl k) ?_
          show own_Go p e below _ T28 (mkF m 114 #[iv p0, iv p1, iv p2, iv p3, iv p4, iv p5, iv 5, iv bx0, iv bx1, iv bx2, iv bx3, iv bx4, iv bx5, iv bx6, rv a1, .unset, .unset, .unset, .unset] [(.int 5)])
          refine own_st (fun _ k => XT.iconstV X28.here hx rfl (2 : Int32) (hb hby at_114) (by decide) k) ?_
          show own_Go p e below _ T28 (mkF m 115 #[iv p0, iv p1, iv p2, iv p3, iv p4, iv p5, iv 5, iv bx0, iv bx1, iv bx2, iv bx3, iv bx4, iv bx5, iv bx6, rv a1, .unset, .unset, .unset, .unset] [(.int 2), (.int 5)])
          refine own_st (fun _ k => XS.icmpNo X28.here hx rfl (hb hby at_115) rfl (XT.ii_le_f (by decide)) k) ?_
          show own_Go p e below _ T28 (mkF m 118 #[iv p0, iv p1, iv p2, iv p3, iv p4, iv p5, iv 5, iv bx0, iv bx1, iv bx2, iv bx3, iv bx4, iv bx5, iv bx6, rv a1, .unset, .unset, .unset, .unset] [])
          refine own_st (fun _ k => XS.aload X28.here hx rfl (hb hby at_118) rfl rfl k) ?_
          show own_Go p e below _ T28 (mkF m 120 #[iv p0, iv p1, iv p2, iv p3, iv p4, iv p5, iv 5, iv bx0, iv bx1, iv bx2, iv bx3, iv bx4, iv bx5, iv bx6, rv a1, .unset, .unset, .unset, .unset] [(.ref a1)])
          refine own_st (fun _ k => XT.iconstV X28.here hx rfl (2 : Int32) (hb hby at_120) (by decide) k) ?_
          show own_Go p e below _ T28 (mkF m 121 #[iv p0, iv p1, iv p2, iv p3, iv p4, iv p5, iv 5, iv bx0, iv bx1, iv bx2, iv bx3, iv bx4, iv bx5, iv bx6, rv a1, .unset, .unset, .unset, .unset] [(.int 2), (.ref a1)])
          refine own_st (fun _ k => XS.iload X28.here hx rfl (hb hby at_121) rfl k) ?_
          show own_Go p e below _ T28 (mkF m 123 #[iv p0, iv p1, iv p2, iv p3, iv p4, iv p5, iv 5, iv bx0, iv bx1, iv bx2, iv bx3, iv bx4, iv bx5, iv bx6, rv a1, .unset, .unset, .unset, .unset] [(.int bx2), (.int 2), (.ref a1)])
          obtain ⟨T29, h29, X29, e29, W29, V29, st29⟩ := own_stB X28 hx hZ e28 V28_a1 (j := (2 : Int32)) ⟨by decide, by decide⟩ 2 rfl (Nat.le_of_ble_eq_true rfl) (g := (mkF m 123 #[iv p0, iv p1, iv p2, iv p3, iv p4, iv p5, iv 5, iv bx0, iv bx1, iv bx2, iv bx3, iv bx4, iv bx5, iv bx6, rv a1, .unset, .unset, .unset, .unset] [(.int bx2), (.int 2), (.ref a1)])) rfl rfl (hb hby at_123)
          have V29_a1 : Arv Z h29 a1 k_a1 .byte (5 : Int32) [(.int bx0.toInt8.toInt32), (.int bx1.toInt8.toInt32), (.int bx2.toInt8.toInt32), (.int 0), (.int 0)] (.int 0) := V29
          have O29 := O28.wr W29 g_a1
          have Z29 : n0 ≤ h29.size := by rw [W29.size]; exact Z28
          clear O28 Z28 V28_a1 W29
          have N29 := Fr.snoc X29 N28 g_a1
          clear X28 e28
          refine own_st st29 ?_
          clear st29
          show own_Go p e below _ T29 (mkF m 124 #[iv p0, iv p1, iv p2, iv p3, iv p4, iv p5, iv 5, iv bx0, iv bx1, iv bx2, iv bx3, iv bx4, iv bx5, iv bx6, rv a1, .unset, .unset, .unset, .unset] [])
          refine own_st (fun _ k => XS.iload X29.here hx rfl (hb hby at_124) rfl k) ?_
          show own_Go p e below _ T29 (mkF m 126 #[iv p0, iv p1, iv p2, iv p3, iv p4, iv p5, iv 5, iv bx0, iv bx1, iv bx2, iv bx3, iv bx4, iv bx5, iv bx6, rv a1, .unset, .unset, .unset, .unset] [(.int 5)])
          refine own_st (fun _ k => XT.iconstV X29.here hx rfl (3 : Int32) (hb hby at_126) (by decide) k) ?_
          show own_Go p e below _ T29 (mkF m 127 #[iv p0, iv p1, iv p2, iv p3, iv p4, iv p5, iv 5, iv bx0, iv bx1, iv bx2, iv bx3, iv bx4, iv bx5, iv bx6, rv a1, .unset, .unset, .unset, .unset] [(.int 3), (.int 5)])
          refine own_st (fun _ k => XS.icmpNo X29.here hx rfl (hb hby at_127) rfl (XT.ii_le_f (by decide)) k) ?_
          show own_Go p e below _ T29 (mkF m 130 #[iv p0, iv p1, iv p2, iv p3, iv p4, iv p5, iv 5, iv bx0, iv bx1, iv bx2, iv bx3, iv bx4, iv bx5, iv bx6, rv a1, .unset, .unset, .unset, .unset] [])
          refine own_st (fun _ k => XS.aload X29.here hx rfl (hb hby at_130) rfl rfl k) ?_
          show own_Go p e below _ T29 (mkF m 132 #[iv p0, iv p1, iv p2, iv p3, iv p4, iv p5, iv 5, iv bx0, iv bx1, iv bx2, iv bx3, iv bx4, iv bx5, iv bx6, rv a1, .unset, .unset, .unset, .unset] [(.ref a1)])
          refine own_st (fun _ k => XT.iconstV X29.here hx rfl (3 : Int32) (hb hby at_132) (by decide) k) ?_
          show own_Go p e below _ T29 (mkF m 133 #[iv p0, iv p1, iv p2, iv p3, iv p4, iv p5, iv 5, iv bx0, iv bx1, iv bx2, iv bx3, iv bx4, iv bx5, iv bx6, rv a1, .unset, .unset, .unset, .unset] [(.int 3), (.ref a1)])
          refine own_st (fun _ k => XS.iload X29.here hx rfl (hb hby at_133) rfl k) ?_
          show own_Go p e below _ T29 (mkF m 135 #[iv p0, iv p1, iv p2, iv p3, iv p4, iv p5, iv 5, iv bx0, iv bx1, iv bx2, iv bx3, iv bx4, iv bx5, iv bx6, rv a1, .unset, .unset, .unset, .unset] [(.int bx3), (.int 3), (.ref a1)])
          obtain ⟨T30, h30, X30, e30, W30, V30, st30⟩ := own_stB X29 hx hZ e29 V29_a1 (j := (3 : Int32)) ⟨by decide, by decide⟩ 3 rfl (Nat.le_of_ble_eq_true rfl) (g := (mkF m 135 #[iv p0, iv p1, iv p2, iv p3, iv p4, iv p5, iv 5, iv bx0, iv bx1, iv bx2, iv bx3, iv bx4, iv bx5, iv bx6, rv a1, .unset, .unset, .unset, .unset] [(.int bx3), (.int 3), (.ref a1)])) rfl rfl (hb hby at_135)
          have V30_a1 : Arv Z h30 a1 k_a1 .byte (5 : Int32) [(.int bx0.toInt8.toInt32), (.int bx1.toInt8.toInt32), (.int bx2.toInt8.toInt32), (.int bx3.toInt8.toInt32), (.int 0)] (.int 0) := V30
          have O30 := O29.wr W30 g_a1
          have Z30 : n0 ≤ h30.size := by rw [W30.size]; exact Z29
          clear O29 Z29 V29_a1 W30
          have N30 := Fr.snoc X30 N29 g_a1
          clear X29 e29
          refine own_st st30 ?_
          clear st30
          show own_Go p e below _ T30 (mkF m 136 #[iv p0, iv p1, iv p2, iv p3, iv p4, iv p5, iv 5, iv bx0, iv bx1, iv bx2, iv bx3, iv bx4, iv bx5, iv bx6, rv a1, .unset, .unset, .unset, .unset] [])
          refine own_st (fun _ k => XS.iload X30.here hx rfl (hb hby at_136) rfl k) ?_
          show own_Go p e below _ T30 (mkF m 138 #[iv p0, iv p1, iv p2, iv p3, iv p4, iv p5, iv 5, iv bx0, iv bx1, iv bx2, iv bx3, iv bx4, iv bx5, iv bx6, rv a1, .unset, .unset, .unset, .unset] [(.int 5)])
          refine own_st (fun _ k => XT.iconstV X30.here hx rfl (4 : Int32) (hb hby at_138) (by decide) k) ?_
          show own_Go p e below _ T30 (mkF m 139 #[iv p0, iv p1, iv p2, iv p3, iv p4, iv p5, iv 5, iv bx0, iv bx1, iv bx2, iv bx3, iv bx4, iv bx5, iv bx6, rv a1, .unset, .unset, .unset, .unset] [(.int 4), (.int 5)])
          refine own_st (fun _ k => XS.icmpNo X30.here hx rfl (hb hby at_139) rfl (XT.ii_le_f (by decide)) k) ?_
          show own_Go p e below _ T30 (mkF m 142 #[iv p0, iv p1, iv p2, iv p3, iv p4, iv p5, iv 5, iv bx0, iv bx1, iv bx2, iv bx3, iv bx4, iv bx5, iv bx6, rv a1, .unset, .unset, .unset, .unset] [])
          refine own_st (fun _ k => XS.aload X30.here hx rfl (hb hby at_142) rfl rfl k) ?_
          show own_Go p e below _ T30 (mkF m 144 #[iv p0, iv p1, iv p2, iv p3, iv p4, iv p5, iv 5, iv bx0, iv bx1, iv bx2, iv bx3, iv bx4, iv bx5, iv bx6, rv a1, .unset, .unset, .unset, .unset] [(.ref a1)])
          refine own_st (fun _ k => XT.iconstV X30.here hx rfl (4 : Int32) (hb hby at_144) (by decide) k) ?_
          show own_Go p e below _ T30 (mkF m 145 #[iv p0, iv p1, iv p2, iv p3, iv p4, iv p5, iv 5, iv bx0, iv bx1, iv bx2, iv bx3, iv bx4, iv bx5, iv bx6, rv a1, .unset, .unset, .unset, .unset] [(.int 4), (.ref a1)])
          refine own_st (fun _ k => XS.iload X30.here hx rfl (hb hby at_145) rfl k) ?_
          show own_Go p e below _ T30 (mkF m 147 #[iv p0, iv p1, iv p2, iv p3, iv p4, iv p5, iv 5, iv bx0, iv bx1, iv bx2, iv bx3, iv bx4, iv bx5, iv bx6, rv a1, .unset, .unset, .unset, .unset] [(.int bx4), (.int 4), (.ref a1)])
          obtain ⟨T31, h31, X31, e31, W31, V31, st31⟩ := own_stB X30 hx hZ e30 V30_a1 (j := (4 : Int32)) ⟨by decide, by decide⟩ 4 rfl (Nat.le_of_ble_eq_true rfl) (g := (mkF m 147 #[iv p0, iv p1, iv p2, iv p3, iv p4, iv p5, iv 5, iv bx0, iv bx1, iv bx2, iv bx3, iv bx4, iv bx5, iv bx6, rv a1, .unset, .unset, .unset, .unset] [(.int bx4), (.int 4), (.ref a1)])) rfl rfl (hb hby at_147)
          have V31_a1 : Arv Z h31 a1 k_a1 .byte (5 : Int32) [(.int bx0.toInt8.toInt32), (.int bx1.toInt8.toInt32), (.int bx2.toInt8.toInt32), (.int bx3.toInt8.toInt32), (.int bx4.toInt8.toInt32)] (.int 0) := V31
          have O31 := O30.wr W31 g_a1
          have Z31 : n0 ≤ h31.size := by rw [W31.size]; exact Z30
          clear O30 Z30 V30_a1 W31
          have N31 := Fr.snoc X31 N30 g_a1
          clear X30 e30
          refine own_st st31 ?_
          clear st31
          show own_Go p e below _ T31 (mkF m 148 #[iv p0, iv p1, iv p2, iv p3, iv p4, iv p5, iv 5, iv bx0, iv bx1, iv bx2, iv bx3, iv bx4, iv bx5, iv bx6, rv a1, .unset, .unset, .unset, .unset] [])
          refine own_st (fun _ k => XS.iload X31.here hx rfl (hb hby at_148) rfl k) ?_
          show own_Go p e below _ T31 (mkF m 150 #[iv p0, iv p1, iv p2, iv p3, iv p4, iv p5, iv 5, iv bx0, iv bx1, iv bx2, iv bx3, iv bx4, iv bx5, iv bx6, rv a1, .unset, .unset, .unset, .unset] [(.int 5)])
          refine own_st (fun _ k => XT.iconstV X31.here hx rfl (5 : Int32) (hb hby at_150) (by decide) k) ?_
          show own_Go p e below _ T31 (mkF m 151 #[iv p0, iv p1, iv p2, iv p3, iv p4, iv p5, iv 5, iv bx0, iv bx1, iv bx2, iv bx3, iv bx4, iv bx5, iv bx6, rv a1, .unset, .unset, .unset, .unset] [(.int 5), (.int 5)])
          refine own_st (fun _ k => XS.icmpYes X31.here hx rfl (pc0 := 151) (pc' := 160) rfl (hb hby at_151) rfl (XT.ii_le_t (by decide)) (by decide) (by decide) k) ?_
          show own_Go p e below _ T31 (mkF m 160 #[iv p0, iv p1, iv p2, iv p3, iv p4, iv p5, iv 5, iv bx0, iv bx1, iv bx2, iv bx3, iv bx4, iv bx5, iv bx6, rv a1, .unset, .unset, .unset, .unset] [])
          refine own_st (fun _ k => XS.iload X31.here hx rfl (hb hby at_160) rfl k) ?_
          show own_Go p e below _ T31 (mkF m 162 #[iv p0, iv p1, iv p2, iv p3, iv p4, iv p5, iv 5, iv bx0, iv bx1, iv bx2, iv bx3, iv bx4, iv bx5, iv bx6, rv a1, .unset, .unset, .unset, .unset] [(.int 5)])
          refine own_st (fun _ k => XT.bipushV X31.here hx rfl (6 : Int32) (hb hby at_162) (by decide) k) ?_
          show own_Go p e below _ T31 (mkF m 164 #[iv p0, iv p1, iv p2, iv p3, iv p4, iv p5, iv 5, iv bx0, iv bx1, iv bx2, iv bx3, iv bx4, iv bx5, iv bx6, rv a1, .unset, .unset, .unset, .unset] [(.int 6), (.int 5)])
          refine own_st (fun _ k => XS.icmpYes X31.here hx rfl (pc0 := 164) (pc' := 174) rfl (hb hby at_164) rfl (XT.ii_le_t (by decide)) (by decide) (by decide) k) ?_
          show own_Go p e below _ T31 (mkF m 174 #[iv p0, iv p1, iv p2, iv p3, iv p4, iv p5, iv 5, iv bx0, iv bx1, iv bx2, iv bx3, iv bx4, iv bx5, iv bx6, rv a1, .unset, .unset, .unset, .unset] [])
          refine own_st (fun _ k => XS.aload X31.here hx rfl (hb hby at_174) rfl rfl k) ?_
          show own_Go p e below _ T31 (mkF m 176 #[iv p0, iv p1, iv p2, iv p3, iv p4, iv p5, iv 5, iv bx0, iv bx1, iv bx2, iv bx3, iv bx4, iv bx5, iv bx6, rv a1, .unset, .unset, .unset, .unset] [(.ref a1)])
          have VBx := VB.ext O31.2
          obtain ⟨_, _, ⟨T32, L32, k32, n32⟩, -, X32, ⟨Lc32, hQ32, l32, y32, z32⟩, st32⟩ := Jvm.LawKit.callS X31 hx (y := (⟨"com/example/broken_to_found/brokentofound/watch/UrlList", "byteOrderMarkLength", "([B)I"⟩ : MethodName)) hown (mvT hZ (hw _ (List.mem_of_getElem? (i := 1) rfl))) (mvT hZ (hw _ (List.mem_of_getElem? (i := 2) rfl))) (mvT hZ (hw _ (List.mem_of_getElem? (i := 3) rfl))) (mvT hZ (hw _ (List.mem_of_getElem? (i := 4) rfl))) (by decide) (backOf (W := 0) (own_rm_bom l Z a0 hw [] a1 k_a1 (5 : Int32) [(.int bx0.toInt8.toInt32), (.int bx1.toInt8.toInt32), (.int bx2.toInt8.toInt32), (.int bx3.toInt8.toInt32), (.int bx4.toInt8.toInt32)] bx0.toInt8.toInt32 bx1.toInt8.toInt32 bx2.toInt8.toInt32 w_B kB h31 n0 Z31 V31_a1 VBx (by decide) rfl rfl rfl (S_B.ext O31.2)) hZ (hw _ (List.mem_of_getElem? (i := 4) rfl)) (hw _ (List.mem_of_getElem? (i := 3) rfl)) (by decide) (by decide)) (g := (mkF m 176 #[iv p0, iv p1, iv p2, iv p3, iv p4, iv p5, iv 5, iv bx0, iv bx1, iv bx2, iv bx3, iv bx4, iv bx5, iv bx6, rv a1, .unset, .unset, .unset, .unset] [(.ref a1)])) rfl (by rw [hml]; rfl) (argsL := [(.ref a1)]) (rest := []) (lenOf own_pd3 rfl) rfl (by show 2 * 0 + _ ≤ _; exact Nat.le_of_eq rfl) (hb hby at_176) (fun _ _ => ⟨rfl, e31, (by decide : 1 + 0 ≤ _), (by decide : 5 + 0 ≤ _)⟩)
          dsimp only [Pt.U, Pt.locs, Pt.cells, Pt.slots] at X32 l32 y32 z32 st32 hQ32
          subst l32 y32 z32
          obtain ⟨rfl, N32, eh32⟩ := hQ32
          have M32 := Fr.app N31 N32
          refine own_st st32 ?_
          clear N31 X31 N32 e31 st32
          show own_Go p e below _ T32 (mkF m 179 #[iv p0, iv p1, iv p2, iv p3, iv p4, iv p5, iv 5, iv bx0, iv bx1, iv bx2, iv bx3, iv bx4, iv bx5, iv bx6, rv a1, .unset, .unset, .unset, .unset] [(.int (own_bom bx0.toInt8.toInt32 bx1.toInt8.toInt32 bx2.toInt8.toInt32))])
          refine own_st (fun _ k => XS.istore X32.here hx rfl (hb hby at_179) rfl (l' := #[iv p0, iv p1, iv p2, iv p3, iv p4, iv p5, iv 5, iv bx0, iv bx1, iv bx2, iv bx3, iv bx4, iv bx5, iv bx6, rv a1, iv (own_bom bx0.toInt8.toInt32 bx1.toInt8.toInt32 bx2.toInt8.toInt32), .unset, .unset, .unset]) rfl k) ?_
          show own_Go p e below _ T32 (mkF m 181 #[iv p0, iv p1, iv p2, iv p3, iv p4, iv p5, iv 5, iv bx0, iv bx1, iv bx2, iv bx3, iv bx4, iv bx5, iv bx6, rv a1, iv (own_bom bx0.toInt8.toInt32 bx1.toInt8.toInt32 bx2.toInt8.toInt32), .unset, .unset, .unset] [])
          refine own_st (fun _ k => XS.iload X32.here hx rfl (hb hby at_181) rfl k) ?_
          show own_Go p e below _ T32 (mkF m 183 #[iv p0, iv p1, iv p2, iv p3, iv p4, iv p5, iv 5, iv bx0, iv bx1, iv bx2, iv bx3, iv bx4, iv bx5, iv bx6, rv a1, iv (own_bom bx0.toInt8.toInt32 bx1.toInt8.toInt32 bx2.toInt8.toInt32), .unset, .unset, .unset] [(.int 5)])
          refine own_st (fun _ k => XT.iconstV X32.here hx rfl (3 : Int32) (hb hby at_183) (by decide) k) ?_
          show own_Go p e below _ T32 (mkF m 184 #[iv p0, iv p1, iv p2, iv p3, iv p4, iv p5, iv 5, iv bx0, iv bx1, iv bx2, iv bx3, iv bx4, iv bx5, iv bx6, rv a1, iv (own_bom bx0.toInt8.toInt32 bx1.toInt8.toInt32 bx2.toInt8.toInt32), .unset, .unset, .unset] [(.int 3), (.int 5)])
          have KE : ∀ mk ex : Int32, ex = (own_bom bx0.toInt8.toInt32 bx1.toInt8.toInt32 bx2.toInt8.toInt32) → own_Go p e below (own_K s (own_Q_law Z p0 p1 p2 p3 p4 p5 w_B kB h0 n0) 16 128) T32 (mkF m 227 #[iv p0, iv p1, iv p2, iv p3, iv p4, iv p5, iv 5, iv bx0, iv bx1, iv bx2, iv bx3, iv bx4, iv bx5, iv bx6, rv a1, iv (own_bom bx0.toInt8.toInt32 bx1.toInt8.toInt32 bx2.toInt8.toInt32), iv mk, iv ex, .unset] []) := by
            intro mk ex hex
            show own_Go p e below _ T32 (mkF m 227 #[iv p0, iv p1, iv p2, iv p3, iv p4, iv p5, iv 5, iv bx0, iv bx1, iv bx2, iv bx3, iv bx4, iv bx5, iv bx6, rv a1, iv (own_bom bx0.toInt8.toInt32 bx1.toInt8.toInt32 bx2.toInt8.toInt32), iv mk, iv ex, .unset] [])
            refine own_st (fun _ k => XS.aload X32.here hx rfl (hb hby at_227) rfl rfl k) ?_
            show own_Go p e below _ T32 (mkF m 229 #[iv p0, iv p1, iv p2, iv p3, iv p4, iv p5, iv 5, iv bx0, iv bx1, iv bx2, iv bx3, iv bx4, iv bx5, iv bx6, rv a1, iv (own_bom bx0.toInt8.toInt32 bx1.toInt8.toInt32 bx2.toInt8.toInt32), iv mk, iv ex, .unset] [(.ref a1)])
            refine own_st (fun _ k => own_len X32 hx hZ eh32 V31_a1 rfl rfl (hb hby at_229) k) ?_
            show own_Go p e below _ T32 (mkF m 230 #[iv p0, iv p1, iv p2, iv p3, iv p4, iv p5, iv 5, iv bx0, iv bx1, iv bx2, iv bx3, iv bx4, iv bx5, iv bx6, rv a1, iv (own_bom bx0.toInt8.toInt32 bx1.toInt8.toInt32 bx2.toInt8.toInt32), iv mk, iv ex, .unset] [(.int 5)])
            refine own_st (fun _ k => XS.iload X32.here hx rfl (hb hby at_230) rfl k) ?_
            show own_Go p e below _ T32 (mkF m 232 #[iv p0, iv p1, iv p2, iv p3, iv p4, iv p5, iv 5, iv bx0, iv bx1, iv bx2, iv bx3, iv bx4, iv bx5, iv bx6, rv a1, iv (own_bom bx0.toInt8.toInt32 bx1.toInt8.toInt32 bx2.toInt8.toInt32), iv mk, iv ex, .unset] [(.int 5), (.int 5)])
            refine own_st (fun _ k => XS.icmpNo X32.here hx rfl (hb hby at_232) rfl (XT.ii_ne_f rfl) k) ?_
            show own_Go p e below _ T32 (mkF m 235 #[iv p0, iv p1, iv p2, iv p3, iv p4, iv p5, iv 5, iv bx0, iv bx1, iv bx2, iv bx3, iv bx4, iv bx5, iv bx6, rv a1, iv (own_bom bx0.toInt8.toInt32 bx1.toInt8.toInt32 bx2.toInt8.toInt32), iv mk, iv ex, .unset] [])
            refine own_st (fun _ k => XS.iload X32.here hx rfl (hb hby at_235) rfl k) ?_
            show own_Go p e below _ T32 (mkF m 237 #[iv p0, iv p1, iv p2, iv p3, iv p4, iv p5, iv 5, iv bx0, iv bx1, iv bx2, iv bx3, iv bx4, iv bx5, iv bx6, rv a1, iv (own_bom bx0.toInt8.toInt32 bx1.toInt8.toInt32 bx2.toInt8.toInt32), iv mk, iv ex, .unset] [(.int 5)])
            refine own_st (fun _ k => XS.ifNo X32.here hx rfl (hb hby at_237) rfl (XT.i0_le_f (by decide)) k) ?_
            show own_Go p e below _ T32 (mkF m 240 #[iv p0, iv p1, iv p2, iv p3, iv p4, iv p5, iv 5, iv bx0, iv bx1, iv bx2, iv bx3, iv bx4, iv bx5, iv bx6, rv a1, iv (own_bom bx0.toInt8.toInt32 bx1.toInt8.toInt32 bx2.toInt8.toInt32), iv mk, iv ex, .unset] [])
            refine own_st (fun _ k => XS.aload X32.here hx rfl (hb hby at_240) rfl rfl k) ?_
            show own_Go p e below _ T32 (mkF m 242 #[iv p0, iv p1, iv p2, iv p3, iv p4, iv p5, iv 5, iv bx0, iv bx1, iv bx2, iv bx3, iv bx4, iv bx5, iv bx6, rv a1, iv (own_bom bx0.toInt8.toInt32 bx1.toInt8.toInt32 bx2.toInt8.toInt32), iv mk, iv ex, .unset] [(.ref a1)])
            refine own_st (fun _ k => XT.iconstV X32.here hx rfl (0 : Int32) (hb hby at_242) (by decide) k) ?_
            show own_Go p e below _ T32 (mkF m 243 #[iv p0, iv p1, iv p2, iv p3, iv p4, iv p5, iv 5, iv bx0, iv bx1, iv bx2, iv bx3, iv bx4, iv bx5, iv bx6, rv a1, iv (own_bom bx0.toInt8.toInt32 bx1.toInt8.toInt32 bx2.toInt8.toInt32), iv mk, iv ex, .unset] [(.int 0), (.ref a1)])
            refine own_st (fun _ k => own_ldB X32 hx hZ eh32 V31_a1 ⟨by decide, by decide⟩ (v := (.int bx0.toInt8.toInt32)) rfl rfl rfl (hb hby at_243) k) ?_
            show own_Go p e below _ T32 (mkF m 244 #[iv p0, iv p1, iv p2, iv p3, iv p4, iv p5, iv 5, iv bx0, iv bx1, iv bx2, iv bx3, iv bx4, iv bx5, iv bx6, rv a1, iv (own_bom bx0.toInt8.toInt32 bx1.toInt8.toInt32 bx2.toInt8.toInt32), iv mk, iv ex, .unset] [(.int bx0.toInt8.toInt32)])
            refine own_st (fun _ k => XS.iload X32.here hx rfl (hb hby at_244) rfl k) ?_
            show own_Go p e below _ T32 (mkF m 246 #[iv p0, iv p1, iv p2, iv p3, iv p4, iv p5, iv 5, iv bx0, iv bx1, iv bx2, iv bx3, iv bx4, iv bx5, iv bx6, rv a1, iv (own_bom bx0.toInt8.toInt32 bx1.toInt8.toInt32 bx2.toInt8.toInt32), iv mk, iv ex, .unset] [(.int bx0), (.int bx0.toInt8.toInt32)])
            refine own_st (fun _ k => XS.icmpNo X32.here hx rfl (hb hby at_246) rfl (XT.ii_ne_f ok0) k) ?_
            show own_Go p e below _ T32 (mkF m 249 #[iv p0, iv p1, iv p2, iv p3, iv p4, iv p5, iv 5, iv bx0, iv bx1, iv bx2, iv bx3, iv bx4, iv bx5, iv bx6, rv a1, iv (own_bom bx0.toInt8.toInt32 bx1.toInt8.toInt32 bx2.toInt8.toInt32), iv mk, iv ex, .unset] [])
            refine own_st (fun _ k => XS.iload X32.here hx rfl (hb hby at_249) rfl k) ?_
            show own_Go p e below _ T32 (mkF m 251 #[iv p0, iv p1, iv p2, iv p3, iv p4, iv p5, iv 5, iv bx0, iv bx1, iv bx2, iv bx3, iv bx4, iv bx5, iv bx6, rv a1, iv (own_bom bx0.toInt8.toInt32 bx1.toInt8.toInt32 bx2.toInt8.toInt32), iv mk, iv ex, .unset] [(.int 5)])
            refine own_st (fun _ k => XT.iconstV X32.here hx rfl (1 : Int32) (hb hby at_251) (by decide) k) ?_
            show own_Go p e below _ T32 (mkF m 252 #[iv p0, iv p1, iv p2, iv p3, iv p4, iv p5, iv 5, iv bx0, iv bx1, iv bx2, iv bx3, iv bx4, iv bx5, iv bx6, rv a1, iv (own_bom bx0.toInt8.toInt32 bx1.toInt8.toInt32 bx2.toInt8.toInt32), iv mk, iv ex, .unset] [(.int 1), (.int 5)])
            refine own_st (fun _ k => XS.icmpNo X32.here hx rfl (hb hby at_252) rfl (XT.ii_le_f (by decide)) k) ?_
            show own_Go p e below _ T32 (mkF m 255 #[iv p0, iv p1, iv p2, iv p3, iv p4, iv p5, iv 5, iv bx0, iv bx1, iv bx2, iv bx3, iv bx4, iv bx5, iv bx6, rv a1, iv (own_bom bx0.toInt8.toInt32 bx1.toInt8.toInt32 bx2.toInt8.toInt32), iv mk, iv ex, .unset] [])
            refine own_st (fun _ k => XS.aload X32.here hx rfl (hb hby at_255) rfl rfl k) ?_
            show own_Go p e below _ T32 (mkF m 257 #[iv p0, iv p1, iv p2, iv p3, iv p4, iv p5, iv 5, iv bx0, iv bx1, iv bx2, iv bx3, iv bx4, iv bx5, iv bx6, rv a1, iv (own_bom bx0.toInt8.toInt32 bx1.toInt8.toInt32 bx2.toInt8.toInt32), iv mk, iv ex, .unset] [(.ref a1)])
            refine own_st (fun _ k => XT.iconstV X32.here hx rfl (1 : Int32) (hb hby at_257) (by decide) k) ?_
            show own_Go p e below _ T32 (mkF m 258 #[iv p0, iv p1, iv p2, iv p3, iv p4, iv p5, iv 5, iv bx0, iv bx1, iv bx2, iv bx3, iv bx4, iv bx5, iv bx6, rv a1, iv (own_bom bx0.toInt8.toInt32 bx1.toInt8.toInt32 bx2.toInt8.toInt32), iv mk, iv ex, .unset] [(.int 1), (.ref a1)])
            refine own_st (fun _ k => own_ldB X32 hx hZ eh32 V31_a1 ⟨by decide, by decide⟩ (v := (.int bx1.toInt8.toInt32)) rfl rfl rfl (hb hby at_258) k) ?_
            show own_Go p e below _ T32 (mkF m 259 #[iv p0, iv p1, iv p2, iv p3, iv p4, iv p5, iv 5, iv bx0, iv bx1, iv bx2, iv bx3, iv bx4, iv bx5, iv bx6, rv a1, iv (own_bom bx0.toInt8.toInt32 bx1.toInt8.toInt32 bx2.toInt8.toInt32), iv mk, iv ex, .unset] [(.int bx1.toInt8.toInt32)])
            refine own_st (fun _ k => XS.iload X32.here hx rfl (hb hby at_259) rfl k) ?_
            show own_Go p e below _ T32 (mkF m 261 #[iv p0, iv p1, iv p2, iv p3, iv p4, iv p5, iv 5, iv bx0, iv bx1, iv bx2, iv bx3, iv bx4, iv bx5, iv bx6, rv a1, iv (own_bom bx0.toInt8.toInt32 bx1.toInt8.toInt32 bx2.toInt8.toInt32), iv mk, iv ex, .unset] [(.int bx1), (.int bx1.toInt8.toInt32)])
            refine own_st (fun _ k => XS.icmpNo X32.here hx rfl (hb hby at_261) rfl (XT.ii_ne_f ok1) k) ?_
            show own_Go p e below _ T32 (mkF m 264 #[iv p0, iv p1, iv p2, iv p3, iv p4, iv p5, iv 5, iv bx0, iv bx1, iv bx2, iv bx3, iv bx4, iv bx5, iv bx6, rv a1, iv (own_bom bx0.toInt8.toInt32 bx1.toInt8.toInt32 bx2.toInt8.toInt32), iv mk, iv ex, .unset] [])
            refine own_st (fun _ k => XS.iload X32.here hx rfl (hb hby at_264) rfl k) ?_
            show own_Go p e below _ T32 (mkF m 266 #[iv p0, iv p1, iv p2, iv p3, iv p4, iv p5, iv 5, iv bx0, iv bx1, iv bx2, iv bx3, iv bx4, iv bx5, iv bx6, rv a1, iv (own_bom bx0.toInt8.toInt32 bx1.toInt8.toInt32 bx2.toInt8.toInt32), iv mk, iv ex, .unset] [(.int 5)])
            refine own_st (fun _ k => XT.iconstV X32.here hx rfl (2 : Int32) (hb hby at_266) (by decide) k) ?_
            show own_Go p e below _ T32 (mkF m 267 #[iv p0, iv p1, iv p2, iv p3, iv p4, iv p5, iv 5, iv bx0, iv bx1, iv bx2, iv bx3, iv bx4, iv bx5, iv bx6, rv a1, iv (own_bom bx0.toInt8.toInt32 bx1.toInt8.toInt32 bx2.toInt8.toInt32), iv mk, iv ex, .unset] [(.int 2), (.int 5)])
            refine own_st (fun _ k => XS.icmpNo X32.here hx rfl (hb hby at_267) rfl (XT.ii_le_f (by decide)) k) ?_
            show own_Go p e below _ T32 (mkF m 270 #[iv p0, iv p1, iv p2, iv p3, iv p4, iv p5, iv 5, iv bx0, iv bx1, iv bx2, iv bx3, iv bx4, iv bx5, iv bx6, rv a1, iv (own_bom bx0.toInt8.toInt32 bx1.toInt8.toInt32 bx2.toInt8.toInt32), iv mk, iv ex, .unset] [])
            refine own_st (fun _ k => XS.aload X32.here hx rfl (hb hby at_270) rfl rfl k) ?_
            show own_Go p e below _ T32 (mkF m 272 #[iv p0, iv p1, iv p2, iv p3, iv p4, iv p5, iv 5, iv bx0, iv bx1, iv bx2, iv bx3, iv bx4, iv bx5, iv bx6, rv a1, iv (own_bom bx0.toInt8.toInt32 bx1.toInt8.toInt32 bx2.toInt8.toInt32), iv mk, iv ex, .unset] [(.ref a1)])
            refine own_st (fun _ k => XT.iconstV X32.here hx rfl (2 : Int32) (hb hby at_272) (by decide) k) ?_
            show own_Go p e below _ T32 (mkF m 273 #[iv p0, iv p1, iv p2, iv p3, iv p4, iv p5, iv 5, iv bx0, iv bx1, iv bx2, iv bx3, iv bx4, iv bx5, iv bx6, rv a1, iv (own_bom bx0.toInt8.toInt32 bx1.toInt8.toInt32 bx2.toInt8.toInt32), iv mk, iv ex, .unset] [(.int 2), (.ref a1)])
            refine own_st (fun _ k => own_ldB X32 hx hZ eh32 V31_a1 ⟨by decide, by decide⟩ (v := (.int bx2.toInt8.toInt32)) rfl rfl rfl (hb hby at_273) k) ?_
            show own_Go p e below _ T32 (mkF m 274 #[iv p0, iv p1, iv p2, iv p3, iv p4, iv p5, iv 5, iv bx0, iv bx1, iv bx2, iv bx3, iv bx4, iv bx5, iv bx6, rv a1, iv (own_bom bx0.toInt8.toInt32 bx1.toInt8.toInt32 bx2.toInt8.toInt32), iv mk, iv ex, .unset] [(.int bx2.toInt8.toInt32)])
            refine own_st (fun _ k => XS.iload X32.here hx rfl (hb hby at_274) rfl k) ?_
            show own_Go p e below _ T32 (mkF m 276 #[iv p0, iv p1, iv p2, iv p3, iv p4, iv p5, iv 5, iv bx0, iv bx1, iv bx2, iv bx3, iv bx4, iv bx5, iv bx6, rv a1, iv (own_bom bx0.toInt8.toInt32 bx1.toInt8.toInt32 bx2.toInt8.toInt32), iv mk, iv ex, .unset] [(.int bx2), (.int bx2.toInt8.toInt32)])
            refine own_st (fun _ k => XS.icmpNo X32.here hx rfl (hb hby at_276) rfl (XT.ii_ne_f ok2) k) ?_
            show own_Go p e below _ T32 (mkF m 279 #[iv p0, iv p1, iv p2, iv p3, iv p4, iv p5, iv 5, iv bx0, iv bx1, iv bx2, iv bx3, iv bx4, iv bx5, iv bx6, rv a1, iv (own_bom bx0.toInt8.toInt32 bx1.toInt8.toInt32 bx2.toInt8.toInt32), iv mk, iv ex, .unset] [])
            refine own_st (fun _ k => XS.iload X32.here hx rfl (hb hby at_279) rfl k) ?_
            show own_Go p e below _ T32 (mkF m 281 #[iv p0, iv p1, iv p2, iv p3, iv p4, iv p5, iv 5, iv bx0, iv bx1, iv bx2, iv bx3, iv bx4, iv bx5, iv bx6, rv a1, iv (own_bom bx0.toInt8.toInt32 bx1.toInt8.toInt32 bx2.toInt8.toInt32), iv mk, iv ex, .unset] [(.int 5)])
            refine own_st (fun _ k => XT.iconstV X32.here hx rfl (3 : Int32) (hb hby at_281) (by decide) k) ?_
            show own_Go p e below _ T32 (mkF m 282 #[iv p0, iv p1, iv p2, iv p3, iv p4, iv p5, iv 5, iv bx0, iv bx1, iv bx2, iv bx3, iv bx4, iv bx5, iv bx6, rv a1, iv (own_bom bx0.toInt8.toInt32 bx1.toInt8.toInt32 bx2.toInt8.toInt32), iv mk, iv ex, .unset] [(.int 3), (.int 5)])
            refine own_st (fun _ k => XS.icmpNo X32.here hx rfl (hb hby at_282) rfl (XT.ii_le_f (by decide)) k) ?_
            show own_Go p e below _ T32 (mkF m 285 #[iv p0, iv p1, iv p2, iv p3, iv p4, iv p5, iv 5, iv bx0, iv bx1, iv bx2, iv bx3, iv bx4, iv bx5, iv bx6, rv a1, iv (own_bom bx0.toInt8.toInt32 bx1.toInt8.toInt32 bx2.toInt8.toInt32), iv mk, iv ex, .unset] [])
            refine own_st (fun _ k => XS.aload X32.here hx rfl (hb hby at_285) rfl rfl k) ?_
            show own_Go p e below _ T32 (mkF m 287 #[iv p0, iv p1, iv p2, iv p3, iv p4, iv p5, iv 5, iv bx0, iv bx1, iv bx2, iv bx3, iv bx4, iv bx5, iv bx6, rv a1, iv (own_bom bx0.toInt8.toInt32 bx1.toInt8.toInt32 bx2.toInt8.toInt32), iv mk, iv ex, .unset] [(.ref a1)])
            refine own_st (fun _ k => XT.iconstV X32.here hx rfl (3 : Int32) (hb hby at_287) (by decide) k) ?_
            show own_Go p e below _ T32 (mkF m 288 #[iv p0, iv p1, iv p2, iv p3, iv p4, iv p5, iv 5, iv bx0, iv bx1, iv bx2, iv bx3, iv bx4, iv bx5, iv bx6, rv a1, iv (own_bom bx0.toInt8.toInt32 bx1.toInt8.toInt32 bx2.toInt8.toInt32), iv mk, iv ex, .unset] [(.int 3), (.ref a1)])
            refine own_st (fun _ k => own_ldB X32 hx hZ eh32 V31_a1 ⟨by decide, by decide⟩ (v := (.int bx3.toInt8.toInt32)) rfl rfl rfl (hb hby at_288) k) ?_
            show own_Go p e below _ T32 (mkF m 289 #[iv p0, iv p1, iv p2, iv p3, iv p4, iv p5, iv 5, iv bx0, iv bx1, iv bx2, iv bx3, iv bx4, iv bx5, iv bx6, rv a1, iv (own_bom bx0.toInt8.toInt32 bx1.toInt8.toInt32 bx2.toInt8.toInt32), iv mk, iv ex, .unset] [(.int bx3.toInt8.toInt32)])
            refine own_st (fun _ k => XS.iload X32.here hx rfl (hb hby at_289) rfl k) ?_
            show own_Go p e below _ T32 (mkF m 291 #[iv p0, iv p1, iv p2, iv p3, iv p4, iv p5, iv 5, iv bx0, iv bx1, iv bx2, iv bx3, iv bx4, iv bx5, iv bx6, rv a1, iv (own_bom bx0.toInt8.toInt32 bx1.toInt8.toInt32 bx2.toInt8.toInt32), iv mk, iv ex, .unset] [(.int bx3), (.int bx3.toInt8.toInt32)])
            refine own_st (fun _ k => XS.icmpNo X32.here hx rfl (hb hby at_291) rfl (XT.ii_ne_f ok3) k) ?_
            show own_Go p e below _ T32 (mkF m 294 #[iv p0, iv p1, iv p2, iv p3, iv p4, iv p5, iv 5, iv bx0, iv bx1, iv bx2, iv bx3, iv bx4, iv bx5, iv bx6, rv a1, iv (own_bom bx0.toInt8.toInt32 bx1.toInt8.toInt32 bx2.toInt8.toInt32), iv mk, iv ex, .unset] [])
            refine own_st (fun _ k => XT.iconstV X32.here hx rfl (1 : Int32) (hb hby at_294) (by decide) k) ?_
            show own_Go p e below _ T32 (mkF m 295 #[iv p0, iv p1, iv p2, iv p3, iv p4, iv p5, iv 5, iv bx0, iv bx1, iv bx2, iv bx3, iv bx4, iv bx5, iv bx6, rv a1, iv (own_bom bx0.toInt8.toInt32 bx1.toInt8.toInt32 bx2.toInt8.toInt32), iv mk, iv ex, .unset] [(.int 1)])
            refine own_st (fun _ k => XS.goto X32.here hx rfl (pc0 := 295) (pc' := 299) rfl (hb hby at_295) (by decide) (by decide) k) ?_
            show own_Go p e below _ T32 (mkF m 299 #[iv p0, iv p1, iv p2, iv p3, iv p4, iv p5, iv 5, iv bx0, iv bx1, iv bx2, iv bx3, iv bx4, iv bx5, iv bx6, rv a1, iv (own_bom bx0.toInt8.toInt32 bx1.toInt8.toInt32 bx2.toInt8.toInt32), iv mk, iv ex, .unset] [(.int 1)])
            refine own_st (fun _ k => XS.istore X32.here hx rfl (hb hby at_299) rfl (l' := #[iv p0, iv p1, iv p2, iv p3, iv p4, iv p5, iv 5, iv bx0, iv bx1, iv bx2, iv bx3, iv bx4, iv bx5, iv bx6, rv a1, iv (own_bom bx0.toInt8.toInt32 bx1.toInt8.toInt32 bx2.toInt8.toInt32), iv mk, iv ex, iv 1]) rfl k) ?_
            show own_Go p e below _ T32 (mkF m 301 #[iv p0, iv p1, iv p2, iv p3, iv p4, iv p5, iv 5, iv bx0, iv bx1, iv bx2, iv bx3, iv bx4, iv bx5, iv bx6, rv a1, iv (own_bom bx0.toInt8.toInt32 bx1.toInt8.toInt32 bx2.toInt8.toInt32), iv mk, iv ex, iv 1] [])
            refine own_st (fun _ k => XS.iload X32.here hx rfl (hb hby at_301) rfl k) ?_
            show own_Go p e below _ T32 (mkF m 303 #[iv p0, iv p1, iv p2, iv p3, iv p4, iv p5, iv 5, iv bx0, iv bx1, iv bx2, iv bx3, iv bx4, iv bx5, iv bx6, rv a1, iv (own_bom bx0.toInt8.toInt32 bx1.toInt8.toInt32 bx2.toInt8.toInt32), iv mk, iv ex, iv 1] [(.int (own_bom bx0.toInt8.toInt32 bx1.toInt8.toInt32 bx2.toInt8.toInt32))])
            refine own_st (fun _ k => XS.iload X32.here hx rfl (hb hby at_303) rfl k) ?_
            show own_Go p e below _ T32 (mkF m 305 #[iv p0, iv p1, iv p2, iv p3, iv p4, iv p5, iv 5, iv bx0, iv bx1, iv bx2, iv bx3, iv bx4, iv bx5, iv bx6, rv a1, iv (own_bom bx0.toInt8.toInt32 bx1.toInt8.toInt32 bx2.toInt8.toInt32), iv mk, iv ex, iv 1] [(.int ex), (.int (own_bom bx0.toInt8.toInt32 bx1.toInt8.toInt32 bx2.toInt8.toInt32))])
            refine own_st (fun _ k => XS.icmpNo X32.here hx rfl (hb hby at_305) rfl (XT.ii_ne_f hex.symm) k) ?_
            show own_Go p e below _ T32 (mkF m 308 #[iv p0, iv p1, iv p2, iv p3, iv p4, iv p5, iv 5, iv bx0, iv bx1, iv bx2, iv bx3, iv bx4, iv bx5, iv bx6, rv a1, iv (own_bom bx0.toInt8.toInt32 bx1.toInt8.toInt32 bx2.toInt8.toInt32), iv mk, iv ex, iv 1] [])
            refine own_st (fun _ k => XS.iload X32.here hx rfl (hb hby at_308) rfl k) ?_
            show own_Go p e below _ T32 (mkF m 310 #[iv p0, iv p1, iv p2, iv p3, iv p4, iv p5, iv 5, iv bx0, iv bx1, iv bx2, iv bx3, iv bx4, iv bx5, iv bx6, rv a1, iv (own_bom bx0.toInt8.toInt32 bx1.toInt8.toInt32 bx2.toInt8.toInt32), iv mk, iv ex, iv 1] [(.int 1)])
            refine own_st (fun _ k => XS.ifNo X32.here hx rfl (hb hby at_310) rfl (XT.i0_eq_f (by decide)) k) ?_
            show own_Go p e below _ T32 (mkF m 313 #[iv p0, iv p1, iv p2, iv p3, iv p4, iv p5, iv 5, iv bx0, iv bx1, iv bx2, iv bx3, iv bx4, iv bx5, iv bx6, rv a1, iv (own_bom bx0.toInt8.toInt32 bx1.toInt8.toInt32 bx2.toInt8.toInt32), iv mk, iv ex, iv 1] [])
            refine own_st (fun _ k => XT.iconstV X32.here hx rfl (1 : Int32) (hb hby at_313) (by decide) k) ?_
            show own_Go p e below _ T32 (mkF m 314 #[iv p0, iv p1, iv p2, iv p3, iv p4, iv p5, iv 5, iv bx0, iv bx1, iv bx2, iv bx3, iv bx4, iv bx5, iv bx6, rv a1, iv (own_bom bx0.toInt8.toInt32 bx1.toInt8.toInt32 bx2.toInt8.toInt32), iv mk, iv ex, iv 1] [(.int 1)])
            refine own_st (fun _ k => XS.goto X32.here hx rfl (pc0 := 314) (pc' := 318) rfl (hb hby at_314) (by decide) (by decide) k) ?_
            show own_Go p e below _ T32 (mkF m 318 #[iv p0, iv p1, iv p2, iv p3, iv p4, iv p5, iv 5, iv bx0, iv bx1, iv bx2, iv bx3, iv bx4, iv bx5, iv bx6, rv a1, iv (own_bom bx0.toInt8.toInt32 bx1.toInt8.toInt32 bx2.toInt8.toInt32), iv mk, iv ex, iv 1] [(.int 1)])
            refine own_retN X32 hx Bd.notSynchronized (t := .boolean) Bd.returns (by simp) (hb hby at_318) (by decide) (by decide) ?_
            rw [eh32]
            exact ⟨rfl, M32⟩
          refine own_st (fun _ k => XS.icmpNo X32.here hx rfl (hb hby at_184) rfl (XT.ii_lt_f (by decide)) k) ?_
          show own_Go p e below _ T32 (mkF m 187 #[iv p0, iv p1, iv p2, iv p3, iv p4, iv p5, iv 5, iv bx0, iv bx1, iv bx2, iv bx3, iv bx4, iv bx5, iv bx6, rv a1, iv (own_bom bx0.toInt8.toInt32 bx1.toInt8.toInt32 bx2.toInt8.toInt32), .unset, .unset, .unset] [])
          refine own_st (fun _ k => XS.iload X32.here hx rfl (hb hby at_187) rfl k) ?_
          show own_Go p e below _ T32 (mkF m 189 #[iv p0, iv p1, iv p2, iv p3, iv p4, iv p5, iv 5, iv bx0, iv bx1, iv bx2, iv bx3, iv bx4, iv bx5, iv bx6, rv a1, iv (own_bom bx0.toInt8.toInt32 bx1.toInt8.toInt32 bx2.toInt8.toInt32), .unset, .unset, .unset] [(.int bx0)])
          refine own_st (fun _ k => XT.bipushV X32.here hx rfl (-17 : Int32) (hb hby at_189) (by decide) k) ?_
          show own_Go p e below _ T32 (mkF m 191 #[iv p0, iv p1, iv p2, iv p3, iv p4, iv p5, iv 5, iv bx0, iv bx1, iv bx2, iv bx3, iv bx4, iv bx5, iv bx6, rv a1, iv (own_bom bx0.toInt8.toInt32 bx1.toInt8.toInt32 bx2.toInt8.toInt32), .unset, .unset, .unset] [(.int (-17)), (.int bx0)])
          by_cases cm0 : bx0 = (-17 : Int32)
          · refine own_st (fun _ k => XS.icmpNo X32.here hx rfl (hb hby at_191) rfl (XT.ii_ne_f cm0) k) ?_
            show own_Go p e below _ T32 (mkF m 194 #[iv p0, iv p1, iv p2, iv p3, iv p4, iv p5, iv 5, iv bx0, iv bx1, iv bx2, iv bx3, iv bx4, iv bx5, iv bx6, rv a1, iv (own_bom bx0.toInt8.toInt32 bx1.toInt8.toInt32 bx2.toInt8.toInt32), .unset, .unset, .unset] [])
            refine own_st (fun _ k => XS.iload X32.here hx rfl (hb hby at_194) rfl k) ?_
            show own_Go p e below _ T32 (mkF m 196 #[iv p0, iv p1, iv p2, iv p3, iv p4, iv p5, iv 5, iv bx0, iv bx1, iv bx2, iv bx3, iv bx4, iv bx5, iv bx6, rv a1, iv (own_bom bx0.toInt8.toInt32 bx1.toInt8.toInt32 bx2.toInt8.toInt32), .unset, .unset, .unset] [(.int bx1)])
            refine own_st (fun _ k => XT.bipushV X32.here hx rfl (-69 : Int32) (hb hby at_196) (by decide) k) ?_
            show own_Go p e below _ T32 (mkF m 198 #[iv p0, iv p1, iv p2, iv p3, iv p4, iv p5, iv 5, iv bx0, iv bx1, iv bx2, iv bx3, iv bx4, iv bx5, iv bx6, rv a1, iv (own_bom bx0.toInt8.toInt32 bx1.toInt8.toInt32 bx2.toInt8.toInt32), .unset, .unset, .unset] [(.int (-69)), (.int bx1)])
            by_cases cm1 : bx1 = (-69 : Int32)
            · refine own_st (fun _ k => XS.icmpNo X32.here hx rfl (hb hby at_198) rfl (XT.ii_ne_f cm1) k) ?_
              show own_Go p e below _ T32 (mkF m 201 #[iv p0, iv p1, iv p2, iv p3, iv p4, iv p5, iv 5, iv bx0, iv bx1, iv bx2, iv bx3, iv bx4, iv bx5, iv bx6, rv a1, iv (own_bom bx0.toInt8.toInt32 bx1.toInt8.toInt32 bx2.toInt8.toInt32), .unset, .unset, .unset] [])
              refine own_st (fun _ k => XS.iload X32.here hx rfl (hb hby at_201) rfl k) ?_
              show own_Go p e below _ T32 (mkF m 203 #[iv p0, iv p1, iv p2, iv p3, iv p4, iv p5, iv 5, iv bx0, iv bx1, iv bx2, iv bx3, iv bx4, iv bx5, iv bx6, rv a1, iv (own_bom bx0.toInt8.toInt32 bx1.toInt8.toInt32 bx2.toInt8.toInt32), .unset, .unset, .unset] [(.int bx2)])
              refine own_st (fun _ k => XT.bipushV X32.here hx rfl (-65 : Int32) (hb hby at_203) (by decide) k) ?_
              show own_Go p e below _ T32 (mkF m 205 #[iv p0, iv p1, iv p2, iv p3, iv p4, iv p5, iv 5, iv bx0, iv bx1, iv bx2, iv bx3, iv bx4, iv bx5, iv bx6, rv a1, iv (own_bom bx0.toInt8.toInt32 bx1.toInt8.toInt32 bx2.toInt8.toInt32), .unset, .unset, .unset] [(.int (-65)), (.int bx2)])
              by_cases cm2 : bx2 = (-65 : Int32)
              · refine own_st (fun _ k => XS.icmpNo X32.here hx rfl (hb hby at_205) rfl (XT.ii_ne_f cm2) k) ?_
                show own_Go p e below _ T32 (mkF m 208 #[iv p0, iv p1, iv p2, iv p3, iv p4, iv p5, iv 5, iv bx0, iv bx1, iv bx2, iv bx3, iv bx4, iv bx5, iv bx6, rv a1, iv (own_bom bx0.toInt8.toInt32 bx1.toInt8.toInt32 bx2.toInt8.toInt32), .unset, .unset, .unset] [])
                refine own_st (fun _ k => XT.iconstV X32.here hx rfl (1 : Int32) (hb hby at_208) (by decide) k) ?_
                show own_Go p e below _ T32 (mkF m 209 #[iv p0, iv p1, iv p2, iv p3, iv p4, iv p5, iv 5, iv bx0, iv bx1, iv bx2, iv bx3, iv bx4, iv bx5, iv bx6, rv a1, iv (own_bom bx0.toInt8.toInt32 bx1.toInt8.toInt32 bx2.toInt8.toInt32), .unset, .unset, .unset] [(.int 1)])
                refine own_st (fun _ k => XS.goto X32.here hx rfl (pc0 := 209) (pc' := 213) rfl (hb hby at_209) (by decide) (by decide) k) ?_
                show own_Go p e below _ T32 (mkF m 213 #[iv p0, iv p1, iv p2, iv p3, iv p4, iv p5, iv 5, iv bx0, iv bx1, iv bx2, iv bx3, iv bx4, iv bx5, iv bx6, rv a1, iv (own_bom bx0.toInt8.toInt32 bx1.toInt8.toInt32 bx2.toInt8.toInt32), .unset, .unset, .unset] [(.int 1)])
                refine own_st (fun _ k => XS.istore X32.here hx rfl (hb hby at_213) rfl (l' := #[iv p0, iv p1, iv p2, iv p3, iv p4, iv p5, iv 5, iv bx0, iv bx1, iv bx2, iv bx3, iv bx4, iv bx5, iv bx6, rv a1, iv (own_bom bx0.toInt8.toInt32 bx1.toInt8.toInt32 bx2.toInt8.toInt32), iv 1, .unset, .unset]) rfl k) ?_
                show own_Go p e below _ T32 (mkF m 215 #[iv p0, iv p1, iv p2, iv p3, iv p4, iv p5, iv 5, iv bx0, iv bx1, iv bx2, iv bx3, iv bx4, iv bx5, iv bx6, rv a1, iv (own_bom bx0.toInt8.toInt32 bx1.toInt8.toInt32 bx2.toInt8.toInt32), iv 1, .unset, .unset] [])
                refine own_st (fun _ k => XS.iload X32.here hx rfl (hb hby at_215) rfl k) ?_
                show own_Go p e below _ T32 (mkF m 217 #[iv p0, iv p1, iv p2, iv p3, iv p4, iv p5, iv 5, iv bx0, iv bx1, iv bx2, iv bx3, iv bx4, iv bx5, iv bx6, rv a1, iv (own_bom bx0.toInt8.toInt32 bx1.toInt8.toInt32 bx2.toInt8.toInt32), iv 1, .unset, .unset] [(.int 1)])
                refine own_st (fun _ k => XS.ifNo X32.here hx rfl (hb hby at_217) rfl (XT.i0_eq_f (by decide)) k) ?_
                show own_Go p e below _ T32 (mkF m 220 #[iv p0, iv p1, iv p2, iv p3, iv p4, iv p5, iv 5, iv bx0, iv bx1, iv bx2, iv bx3, iv bx4, iv bx5, iv bx6, rv a1, iv (own_bom bx0.toInt8.toInt32 bx1.toInt8.toInt32 bx2.toInt8.toInt32), iv 1, .unset, .unset] [])
                refine own_st (fun _ k => XT.iconstV X32.here hx rfl (3 : Int32) (hb hby at_220) (by decide) k) ?_
                show own_Go p e below _ T32 (mkF m 221 #[iv p0, iv p1, iv p2, iv p3, iv p4, iv p5, iv 5, iv bx0, iv bx1, iv bx2, iv bx3, iv bx4, iv bx5, iv bx6, rv a1, iv (own_bom bx0.toInt8.toInt32 bx1.toInt8.toInt32 bx2.toInt8.toInt32), iv 1, .unset, .unset] [(.int 3)])
                refine own_st (fun _ k => XS.goto X32.here hx rfl (pc0 := 221) (pc' := 225) rfl (hb hby at_221) (by decide) (by decide) k) ?_
                show own_Go p e below _ T32 (mkF m 225 #[iv p0, iv p1, iv p2, iv p3, iv p4, iv p5, iv 5, iv bx0, iv bx1, iv bx2, iv bx3, iv bx4, iv bx5, iv bx6, rv a1, iv (own_bom bx0.toInt8.toInt32 bx1.toInt8.toInt32 bx2.toInt8.toInt32), iv 1, .unset, .unset] [(.int 3)])
                refine own_st (fun _ k => XS.istore X32.here hx rfl (hb hby at_225) rfl (l' := #[iv p0, iv p1, iv p2, iv p3, iv p4, iv p5, iv 5, iv bx0, iv bx1, iv bx2, iv bx3, iv bx4, iv bx5, iv bx6, rv a1, iv (own_bom bx0.toInt8.toInt32 bx1.toInt8.toInt32 bx2.toInt8.toInt32), iv 1, iv 3, .unset]) rfl k) ?_
                show own_Go p e below _ T32 (mkF m 227 #[iv p0, iv p1, iv p2, iv p3, iv p4, iv p5, iv 5, iv bx0, iv bx1, iv bx2, iv bx3, iv bx4, iv bx5, iv bx6, rv a1, iv (own_bom bx0.toInt8.toInt32 bx1.toInt8.toInt32 bx2.toInt8.toInt32), iv 1, iv 3, .unset] [])
                exact KE _ _ (by simp [own_bom, ok0, ok1, ok2, cm0, cm1, cm2])
              · refine own_st (fun _ k => XS.icmpYes X32.here hx rfl (pc0 := 205) (pc' := 212) rfl (hb hby at_205) rfl (XT.ii_ne_t cm2) (by decide) (by decide) k) ?_
                show own_Go p e below _ T32 (mkF m 212 #[iv p0, iv p1, iv p2, iv p3, iv p4, iv p5, iv 5, iv bx0, iv bx1, iv bx2, iv bx3, iv bx4, iv bx5, iv bx6, rv a1, iv (own_bom bx0.toInt8.toInt32 bx1.toInt8.toInt32 bx2.toInt8.toInt32), .unset, .unset, .unset] [])
                refine own_st (fun _ k => XT.iconstV X32.here hx rfl (0 : Int32) (hb hby at_212) (by decide) k) ?_
                show own_Go p e below _ T32 (mkF m 213 #[iv p0, iv p1, iv p2, iv p3, iv p4, iv p5, iv 5, iv bx0, iv bx1, iv bx2, iv bx3, iv bx4, iv bx5, iv bx6, rv a1, iv (own_bom bx0.toInt8.toInt32 bx1.toInt8.toInt32 bx2.toInt8.toInt32), .unset, .unset, .unset] [(.int 0)])
                refine own_st (fun _ k => XS.istore X32.here hx rfl (hb hby at_213) rfl (l' := #[iv p0, iv p1, iv p2, iv p3, iv p4, iv p5, iv 5, iv bx0, iv bx1, iv bx2, iv bx3, iv bx4, iv bx5, iv bx6, rv a1, iv (own_bom bx0.toInt8.toInt32 bx1.toInt8.toInt32 bx2.toInt8.toInt32), iv 0, .unset, .unset]) rfl k) ?_
                show own_Go p e below _ T32 (mkF m 215 #[iv p0, iv p1, iv p2, iv p3, iv p4, iv p5, iv 5, iv bx0, iv bx1, iv bx2, iv bx3, iv bx4, iv bx5, iv bx6, rv a1, iv (own_bom bx0.toInt8.toInt32 bx1.toInt8.toInt32 bx2.toInt8.toInt32), iv 0, .unset, .unset] [])
                refine own_st (fun _ k => XS.iload X32.here hx rfl (hb hby at_215) rfl k) ?_
                show own_Go p e below _ T32 (mkF m 217 #[iv p0, iv p1, iv p2, iv p3, iv p4, iv p5, iv 5, iv bx0, iv bx1, iv bx2, iv bx3, iv bx4, iv bx5, iv bx6, rv a1, iv (own_bom bx0.toInt8.toInt32 bx1.toInt8.toInt32 bx2.toInt8.toInt32), iv 0, .unset, .unset] [(.int 0)])
                refine own_st (fun _ k => XS.ifYes X32.here hx rfl (pc0 := 217) (pc' := 224) rfl (hb hby at_217) rfl (XT.i0_eq_t (by decide)) (by decide) (by decide) k) ?_
                show own_Go p e below _ T32 (mkF m 224 #[iv p0, iv p1, iv p2, iv p3, iv p4, iv p5, iv 5, iv bx0, iv bx1, iv bx2, iv bx3, iv bx4, iv bx5, iv bx6, rv a1, iv (own_bom bx0.toInt8.toInt32 bx1.toInt8.toInt32 bx2.toInt8.toInt32), iv 0, .unset, .unset] [])
                refine own_st (fun _ k => XT.iconstV X32.here hx rfl (0 : Int32) (hb hby at_224) (by decide) k) ?_
                show own_Go p e below _ T32 (mkF m 225 #[iv p0, iv p1, iv p2, iv p3, iv p4, iv p5, iv 5, iv bx0, iv bx1, iv bx2, iv bx3, iv bx4, iv bx5, iv bx6, rv a1, iv (own_bom bx0.toInt8.toInt32 bx1.toInt8.toInt32 bx2.toInt8.toInt32), iv 0, .unset, .unset] [(.int 0)])
                refine own_st (fun _ k => XS.istore X32.here hx rfl (hb hby at_225) rfl (l' := #[iv p0, iv p1, iv p2, iv p3, iv p4, iv p5, iv 5, iv bx0, iv bx1, iv bx2, iv bx3, iv bx4, iv bx5, iv bx6, rv a1, iv (own_bom bx0.toInt8.toInt32 bx1.toInt8.toInt32 bx2.toInt8.toInt32), iv 0, iv 0, .unset]) rfl k) ?_
                show own_Go p e below _ T32 (mkF m 227 #[iv p0, iv p1, iv p2, iv p3, iv p4, iv p5, iv 5, iv bx0, iv bx1, iv bx2, iv bx3, iv bx4, iv bx5, iv bx6, rv a1, iv (own_bom bx0.toInt8.toInt32 bx1.toInt8.toInt32 bx2.toInt8.toInt32), iv 0, iv 0, .unset] [])
                exact KE _ _ (by simp [own_bom, ok0, ok1, ok2, cm0, cm1, cm2])
            · refine own_st (fun _ k => XS.icmpYes X32.here hx rfl (pc0 := 198) (pc' := 212) rfl (hb hby at_198) rfl (XT.ii_ne_t cm1) (by decide) (by decide) k) ?_
              show own_Go p e below _ T32 (mkF m 212 #[iv p0, iv p1, iv p2, iv p3, iv p4, iv p5, iv 5, iv bx0, iv bx1, iv bx2, iv bx3, iv bx4, iv bx5, iv bx6, rv a1, iv (own_bom bx0.toInt8.toInt32 bx1.toInt8.toInt32 bx2.toInt8.toInt32), .unset, .unset, .unset] [])
              refine own_st (fun _ k => XT.iconstV X32.here hx rfl (0 : Int32) (hb hby at_212) (by decide) k) ?_
              show own_Go p e below _ T32 (mkF m 213 #[iv p0, iv p1, iv p2, iv p3, iv p4, iv p5, iv 5, iv bx0, iv bx1, iv bx2, iv bx3, iv bx4, iv bx5, iv bx6, rv a1, iv (own_bom bx0.toInt8.toInt32 bx1.toInt8.toInt32 bx2.toInt8.toInt32), .unset, .unset, .unset] [(.int 0)])
              refine own_st (fun _ k => XS.istore X32.here hx rfl (hb hby at_213) rfl (l' := #[iv p0, iv p1, iv p2, iv p3, iv p4, iv p5, iv 5, iv bx0, iv bx1, iv bx2, iv bx3, iv bx4, iv bx5, iv bx6, rv a1, iv (own_bom bx0.toInt8.toInt32 bx1.toInt8.toInt32 bx2.toInt8.toInt32), iv 0, .unset, .unset]) rfl k) ?_
              show own_Go p e below _ T32 (mkF m 215 #[iv p0, iv p1, iv p2, iv p3, iv p4, iv p5, iv 5, iv bx0, iv bx1, iv bx2, iv bx3, iv bx4, iv bx5, iv bx6, rv a1, iv (own_bom bx0.toInt8.toInt32 bx1.toInt8.toInt32 bx2.toInt8.toInt32), iv 0, .unset, .unset] [])
              refine own_st (fun _ k => XS.iload X32.here hx rfl (hb hby at_215) rfl k) ?_
              show own_Go p e below _ T32 (mkF m 217 #[iv p0, iv p1, iv p2, iv p3, iv p4, iv p5, iv 5, iv bx0, iv bx1, iv bx2, iv bx3, iv bx4, iv bx5, iv bx6, rv a1, iv (own_bom bx0.toInt8.toInt32 bx1.toInt8.toInt32 bx2.toInt8.toInt32), iv 0, .unset, .unset] [(.int 0)])
              refine own_st (fun _ k => XS.ifYes X32.here hx rfl (pc0 := 217) (pc' := 224) rfl (hb hby at_217) rfl (XT.i0_eq_t (by decide)) (by decide) (by decide) k) ?_
              show own_Go p e below _ T32 (mkF m 224 #[iv p0, iv p1, iv p2, iv p3, iv p4, iv p5, iv 5, iv bx0, iv bx1, iv bx2, iv bx3, iv bx4, iv bx5, iv bx6, rv a1, iv (own_bom bx0.toInt8.toInt32 bx1.toInt8.toInt32 bx2.toInt8.toInt32), iv 0, .unset, .unset] [])
              refine own_st (fun _ k => XT.iconstV X32.here hx rfl (0 : Int32) (hb hby at_224) (by decide) k) ?_
              show own_Go p e below _ T32 (mkF m 225 #[iv p0, iv p1, iv p2, iv p3, iv p4, iv p5, iv 5, iv bx0, iv bx1, iv bx2, iv bx3, iv bx4, iv bx5, iv bx6, rv a1, iv (own_bom bx0.toInt8.toInt32 bx1.toInt8.toInt32 bx2.toInt8.toInt32), iv 0, .unset, .unset] [(.int 0)])
              refine own_st (fun _ k => XS.istore X32.here hx rfl (hb hby at_225) rfl (l' := #[iv p0, iv p1, iv p2, iv p3, iv p4, iv p5, iv 5, iv bx0, iv bx1, iv bx2, iv bx3, iv bx4, iv bx5, iv bx6, rv a1, iv (own_bom bx0.toInt8.toInt32 bx1.toInt8.toInt32 bx2.toInt8.toInt32), iv 0, iv 0, .unset]) rfl k) ?_
              show own_Go p e below _ T32 (mkF m 227 #[iv p0, iv p1, iv p2, iv p3, iv p4, iv p5, iv 5, iv bx0, iv bx1, iv bx2, iv bx3, iv bx4, iv bx5, iv bx6, rv a1, iv (own_bom bx0.toInt8.toInt32 bx1.toInt8.toInt32 bx2.toInt8.toInt32), iv 0, iv 0, .unset] [])
              exact KE _ _ (by simp [own_bom, ok0, ok1, ok2, cm0, cm1])
          · refine own_st (fun _ k => XS.icmpYes X32.here hx rfl (pc0 := 191) (pc' := 212) rfl (hb hby at_191) rfl (XT.ii_ne_t cm0) (by decide) (by decide) k) ?_
            show own_Go p e below _ T32 (mkF m 212 #[iv p0, iv p1, iv p2, iv p3, iv p4, iv p5, iv 5, iv bx0, iv bx1, iv bx2, iv bx3, iv bx4, iv bx5, iv bx6, rv a1, iv (own_bom bx0.toInt8.toInt32 bx1.toInt8.toInt32 bx2.toInt8.toInt32), .unset, .unset, .unset] [])
            refine own_st (fun _ k => XT.iconstV X32.here hx rfl (0 : Int32) (hb hby at_212) (by decide) k) ?_
            show own_Go p e below _ T32 (mkF m 213 #[iv p0, iv p1, iv p2, iv p3, iv p4, iv p5, iv 5, iv bx0, iv bx1, iv bx2, iv bx3, iv bx4, iv bx5, iv bx6, rv a1, iv (own_bom bx0.toInt8.toInt32 bx1.toInt8.toInt32 bx2.toInt8.toInt32), .unset, .unset, .unset] [(.int 0)])
            refine own_st (fun _ k => XS.istore X32.here hx rfl (hb hby at_213) rfl (l' := #[iv p0, iv p1, iv p2, iv p3, iv p4, iv p5, iv 5, iv bx0, iv bx1, iv bx2, iv bx3, iv bx4, iv bx5, iv bx6, rv a1, iv (own_bom bx0.toInt8.toInt32 bx1.toInt8.toInt32 bx2.toInt8.toInt32), iv 0, .unset, .unset]) rfl k) ?_
            show own_Go p e below _ T32 (mkF m 215 #[iv p0, iv p1, iv p2, iv p3, iv p4, iv p5, iv 5, iv bx0, iv bx1, iv bx2, iv bx3, iv bx4, iv bx5, iv bx6, rv a1, iv (own_bom bx0.toInt8.toInt32 bx1.toInt8.toInt32 bx2.toInt8.toInt32), iv 0, .unset, .unset] [])
            refine own_st (fun _ k => XS.iload X32.here hx rfl (hb hby at_215) rfl k) ?_
            show own_Go p e below _ T32 (mkF m 217 #[iv p0, iv p1, iv p2, iv p3, iv p4, iv p5, iv 5, iv bx0, iv bx1, iv bx2, iv bx3, iv bx4, iv bx5, iv bx6, rv a1, iv (own_bom bx0.toInt8.toInt32 bx1.toInt8.toInt32 bx2.toInt8.toInt32), iv 0, .unset, .unset] [(.int 0)])
            refine own_st (fun _ k => XS.ifYes X32.here hx rfl (pc0 := 217) (pc' := 224) rfl (hb hby at_217) rfl (XT.i0_eq_t (by decide)) (by decide) (by decide) k) ?_
            show own_Go p e below _ T32 (mkF m 224 #[iv p0, iv p1, iv p2, iv p3, iv p4, iv p5, iv 5, iv bx0, iv bx1, iv bx2, iv bx3, iv bx4, iv bx5, iv bx6, rv a1, iv (own_bom bx0.toInt8.toInt32 bx1.toInt8.toInt32 bx2.toInt8.toInt32), iv 0, .unset, .unset] [])
            refine own_st (fun _ k => XT.iconstV X32.here hx rfl (0 : Int32) (hb hby at_224) (by decide) k) ?_
            show own_Go p e below _ T32 (mkF m 225 #[iv p0, iv p1, iv p2, iv p3, iv p4, iv p5, iv 5, iv bx0, iv bx1, iv bx2, iv bx3, iv bx4, iv bx5, iv bx6, rv a1, iv (own_bom bx0.toInt8.toInt32 bx1.toInt8.toInt32 bx2.toInt8.toInt32), iv 0, .unset, .unset] [(.int 0)])
            refine own_st (fun _ k => XS.istore X32.here hx rfl (hb hby at_225) rfl (l' := #[iv p0, iv p1, iv p2, iv p3, iv p4, iv p5, iv 5, iv bx0, iv bx1, iv bx2, iv bx3, iv bx4, iv bx5, iv bx6, rv a1, iv (own_bom bx0.toInt8.toInt32 bx1.toInt8.toInt32 bx2.toInt8.toInt32), iv 0, iv 0, .unset]) rfl k) ?_
            show own_Go p e below _ T32 (mkF m 227 #[iv p0, iv p1, iv p2, iv p3, iv p4, iv p5, iv 5, iv bx0, iv bx1, iv bx2, iv bx3, iv bx4, iv bx5, iv bx6, rv a1, iv (own_bom bx0.toInt8.toInt32 bx1.toInt8.toInt32 bx2.toInt8.toInt32), iv 0, iv 0, .unset] [])
            exact KE _ _ (by simp [own_bom, ok0, ok1, ok2, cm0])
        · show own_Go p e below _ s₁ (mkF m 85 #[iv p0, iv p1, iv p2, iv p3, iv p4, iv p5, iv 6, iv bx0, iv bx1, iv bx2, iv bx3, iv bx4, iv bx5, iv bx6, .unset, .unset, .unset, .unset, .unset] [(.int 6)])
          obtain ⟨T34, h34, k_a1, X34, e34, x34, A34, st34⟩ := newP X0 hx hZ (hw _ (List.mem_of_getElem? (i := 0) rfl)) e0 (g := (mkF m 85 #[iv p0, iv p1, iv p2, iv p3, iv p4, iv p5, iv 6, iv bx0, iv bx1, iv bx2, iv bx3, iv bx4, iv bx5, iv bx6, .unset, .unset, .unset, .unset, .unset] [(.int 6)])) rfl (hb hby at_85) rfl (by decide) (cap := 6) (by decide) (by decide) (by decide) (by decide)
          obtain ⟨a1, g34⟩ : ∃ z, z = h0.size := ⟨_, rfl⟩
          rw [← g34] at A34 st34
          have g_a1 : n0 ≤ a1 := g34 ▸ Z0
          have O34 := O0.ext x34
          have Z34 : n0 ≤ h34.size := Nat.le_trans Z0 x34.1
          clear O0 Z0
          have V34_a1 : Arv Z h34 a1 k_a1 .byte (6 : Int32) [(.int 0), (.int 0), (.int 0), (.int 0), (.int 0), (.int 0)] (.int 0) := (Arv.new A34 (by decide)).pad (pad_rep [] (.int 0) 6)
          clear X0 e0
          refine own_st st34 ?_
          clear st34
          show own_Go p e below _ T34 (mkF m 87 #[iv p0, iv p1, iv p2, iv p3, iv p4, iv p5, iv 6, iv bx0, iv bx1, iv bx2, iv bx3, iv bx4, iv bx5, iv bx6, .unset, .unset, .unset, .unset, .unset] [(.ref a1)])
          refine own_st (fun _ k => XS.astore X34.here hx rfl (hb hby at_87) rfl rfl (l' := #[iv p0, iv p1, iv p2, iv p3, iv p4, iv p5, iv 6, iv bx0, iv bx1, iv bx2, iv bx3, iv bx4, iv bx5, iv bx6, rv a1, .unset, .unset, .unset, .unset]) rfl k) ?_
          show own_Go p e below _ T34 (mkF m 89 #[iv p0, iv p1, iv p2, iv p3, iv p4, iv p5, iv 6, iv bx0, iv bx1, iv bx2, iv bx3, iv bx4, iv bx5, iv bx6, rv a1, .unset, .unset, .unset, .unset] [])
          refine own_st (fun _ k => XS.iload X34.here hx rfl (hb hby at_89) rfl k) ?_
          show own_Go p e below _ T34 (mkF m 91 #[iv p0, iv p1, iv p2, iv p3, iv p4, iv p5, iv 6, iv bx0, iv bx1, iv bx2, iv bx3, iv bx4, iv bx5, iv bx6, rv a1, .unset, .unset, .unset, .unset] [(.int 6)])
          refine own_st (fun _ k => XS.ifNo X34.here hx rfl (hb hby at_91) rfl (XT.i0_le_f (by decide)) k) ?_
          show own_Go p e below _ T34 (mkF m 94 #[iv p0, iv p1, iv p2, iv p3, iv p4, iv p5, iv 6, iv bx0, iv bx1, iv bx2, iv bx3, iv bx4, iv bx5, iv bx6, rv a1, .unset, .unset, .unset, .unset] [])
          refine own_st (fun _ k => XS.aload X34.here hx rfl (hb hby at_94) rfl rfl k) ?_
          show own_Go p e below _ T34 (mkF m 96 #[iv p0, iv p1, iv p2, iv p3, iv p4, iv p5, iv 6, iv bx0, iv bx1, iv bx2, iv bx3, iv bx4, iv bx5, iv bx6, rv a1, .unset, .unset, .unset, .unset] [(.ref a1)])
          refine own_st (fun _ k => XT.iconstV X34.here hx rfl (0 : Int32) (hb hby at_96) (by decide) k) ?_
          show own_Go p e below _ T34 (mkF m 97 #[iv p0, iv p1, iv p2, iv p3, iv p4, iv p5, iv 6, iv bx0, iv bx1, iv bx2, iv bx3, iv bx4, iv bx5, iv bx6, rv a1, .unset, .unset, .unset, .unset] [(.int 0), (.ref a1)])
          refine own_st (fun _ k => XS.iload X34.here hx rfl (hb hby at_97) rfl k) ?_
          show own_Go p e below _ T34 (mkF m 99 #[iv p0, iv p1, iv p2, iv p3, iv p4, iv p5, iv 6, iv bx0, iv bx1, iv bx2, iv bx3, iv bx4, iv bx5, iv bx6, rv a1, .unset, .unset, .unset, .unset] [(.int bx0), (.int 0), (.ref a1)])
          obtain ⟨T35, h35, X35, e35, W35, V35, st35⟩ := own_stB X34 hx hZ e34 V34_a1 (j := (0 : Int32)) ⟨by decide, by decide⟩ 0 rfl (Nat.le_of_ble_eq_true rfl) (g := (mkF m 99 #[iv p0, iv p1, iv p2, iv p3, iv p4, iv p5, iv 6, iv bx0, iv bx1, iv bx2, iv bx3, iv bx4, iv bx5, iv bx6, rv a1, .unset, .unset, .unset, .unset] [(.int bx0), (.int 0), (.ref a1)])) rfl rfl (hb hby at_99)
          have V35_a1 : Arv Z h35 a1 k_a1 .byte (6 : Int32) [(.int bx0.toInt8.toInt32), (.int 0), (.int 0), (.int 0), (.int 0), (.int 0)] (.int 0) := V35
          have O35 := O34.wr W35 g_a1
          have Z35 : n0 ≤ h35.size := by rw [W35.size]; exact Z34
          clear O34 Z34 V34_a1 W35
          have N35 := Fr.snoc X35 N0 g_a1
          clear X34 e34
          refine own_st st35 ?_
          clear st35
          show own_Go p e below _ T35 (mkF m 100 #[iv p0, iv p1, iv p2, iv p3, iv p4, iv p5, iv 6, iv bx0, iv bx1, iv bx2, iv bx3, iv bx4, iv bx5, iv bx6, rv a1, .unset, .unset, .unset, .unset] [])
          refine own_st (fun _ k => XS.iload X35.here hx rfl (hb hby at_100) rfl k) ?_
          show own_Go p e below _ T35 (mkF m 102 #[iv p0, iv p1, iv p2, iv p3, iv p4, iv p5, iv 6, iv bx0, iv bx1, iv bx2, iv bx3, iv bx4, iv bx5, iv bx6, rv a1, .unset, .unset, .unset, .unset] [(.int 6)])
          refine own_st (fun _ k => XT.iconstV X35.here hx rfl (1 : Int32) (hb hby at_102) (by decide) k) ?_
          show own_Go p e below _ T35 (mkF m 103 #[iv p0, iv p1, iv p2, iv p3, iv p4, iv p5, iv 6, iv bx0, iv bx1, iv bx2, iv bx3, iv bx4, iv bx5, iv bx6, rv a1, .unset, .unset, .unset, .unset] [(.int 1), (.int 6)])
          refine own_st (fun _ k => XS.icmpNo X35.here hx rfl (hb hby at_103) rfl (XT.ii_le_f (by decide)) k) ?_
          show own_Go p e below _ T35 (mkF m 106 #[iv p0, iv p1, iv p2, iv p3, iv p4, iv p5, iv 6, iv bx0, iv bx1, iv bx2, iv bx3, iv bx4, iv bx5, iv bx6, rv a1, .unset, .unset, .unset, .unset] [])
          refine own_st (fun _ k => XS.aload X35.here hx rfl (hb hby at_106) rfl rfl k) ?_
          show own_Go p e below _ T35 (mkF m 108 #[iv p0, iv p1, iv p2, iv p3, iv p4, iv p5, iv 6, iv bx0, iv bx1, iv bx2, iv bx3, iv bx4, iv bx5, iv bx6, rv a1, .unset, .unset, .unset, .unset] [(.ref a1)])
          refine own_st (fun _ k => XT.iconstV X35.here hx rfl (1 : Int32) (hb hby at_108) (by decide) k) ?_
          show own_Go p e below _ T35 (mkF m 109 #[iv p0, iv p1, iv p2, iv p3, iv p4, iv p5, iv 6, iv bx0, iv bx1, iv bx2, iv bx3, iv bx4, iv bx5, iv bx6, rv a1, .unset, .unset, .unset, .unset] [(.int 1), (.ref a1)])
          refine own_st (fun _ k => XS.iload X35.here hx rfl (hb hby at_109) rfl k) ?_
          show own_Go p e below _ T35 (mkF m 111 #[iv p0, iv p1, iv p2, iv p3, iv p4, iv p5, iv 6, iv bx0, iv bx1, iv bx2, iv bx3, iv bx4, iv bx5, iv bx6, rv a1, .unset, .unset, .unset, .unset] [(.int bx1), (.int 1), (.ref a1)])
          obtain ⟨T36, h36, X36, e36, W36, V36, st36⟩ := own_stB X35 hx hZ e35 V35_a1 (j := (1 : Int32)) ⟨by decide, by decide⟩ 1 rfl (Nat.le_of_ble_eq_true rfl) (g := (mkF m 111 #[iv p0, iv p1, iv p2, iv p3, iv p4, iv p5, iv 6, iv bx0, iv bx1, iv bx2, iv bx3, iv bx4, iv bx5, iv bx6, rv a1, .unset, .unset, .unset, .unset] [(.int bx1), (.int 1), (.ref a1)])) rfl rfl (hb hby at_111)
          have V36_a1 : Arv Z h36 a1 k_a1 .byte (6 : Int32) [(.int bx0.toInt8.toInt32), (.int bx1.toInt8.toInt32), (.int 0), (.int 0), (.int 0), (.int 0)] (.int 0) := V36
          have O36 := O35.wr W36 g_a1
          have Z36 : n0 ≤ h36.size := by rw [W36.size]; exact Z35
          clear O35 Z35 V35_a1 W36
          have N36 := Fr.snoc X36 N35 g_a1
          clear X35 e35
          refine own_st st36 ?_
          clear st36
          show own_Go p e below _ T36 (mkF m 112 #[iv p0, iv p1, iv p2, iv p3, iv p4, iv p5, iv 6, iv bx0, iv bx1, iv bx2, iv bx3, iv bx4, iv bx5, iv bx6, rv a1, .unset, .unset, .unset, .unset] [])
          refine own_st (fun _ k => XS.iload X36.here hx rfl (hb hby at_112) rfl k) ?_
          show own_Go p e below _ T36 (mkF m 114 #[iv p0, iv p1, iv p2, iv p3, iv p4, iv p5, iv 6, iv bx0, iv bx1, iv bx2, iv bx3, iv bx4, iv bx5, iv bx6, rv a1, .unset, .unset, .unset, .unset] [(.int 6)])
          refine own_st (fun _ k => XT.iconstV X36.here hx rfl (2 : Int32) (hb hby at_114) (by decide) k) ?_
          show own_Go p e below _ T36 (mkF m 115 #[iv p0, iv p1, iv p2, iv p3, iv p4, iv p5, iv 6, iv bx0, iv bx1, iv bx2, iv bx3, iv bx4, iv bx5, iv bx6, rv a1, .unset, .unset, .unset, .unset] [(.int 2), (.int 6)])
          refine own_st (fun _ k => XS.icmpNo X36.here hx rfl (hb hby at_115) rfl (XT.ii_le_f (by decide)) k) ?_
          show own_Go p e below _ T36 (mkF m 118 #[iv p0, iv p1, iv p2, iv p3, iv p4, iv p5, iv 6, iv bx0, iv bx1, iv bx2, iv bx3, iv bx4, iv bx5, iv bx6, rv a1, .unset, .unset, .unset, .unset] [])
          refine own_st (fun _ k => XS.aload X36.here hx rfl (hb hby at_118) rfl rfl k) ?_
          show own_Go p e below _ T36 (mkF m 120 #[iv p0, iv p1, iv p2, iv p3, iv p4, iv p5, iv 6, iv bx0, iv bx1, iv bx2, iv bx3, iv bx4, iv bx5, iv bx6, rv a1, .unset, .unset, .unset, .unset] [(.ref a1)])
          refine own_st (fun _ k => XT.iconstV X36.here hx rfl (2 : Int32) (hb hby at_120) (by decide) k) ?_
          show own_Go p e below _ T36 (mkF m 121 #[iv p0, iv p1, iv p2, iv p3, iv p4, iv p5, iv 6, iv bx0, iv bx1, iv bx2, iv bx3, iv bx4, iv bx5, iv bx6, rv a1, .unset, .unset, .unset, .unset] [(.int 2), (.ref a1)])
          refine own_st (fun _ k => XS.iload X36.here hx rfl (hb hby at_121) rfl k) ?_
          show own_Go p e below _ T36 (mkF m 123 #[iv p0, iv p1, iv p2, iv p3, iv p4, iv p5, iv 6, iv bx0, iv bx1, iv bx2, iv bx3, iv bx4, iv bx5, iv bx6, rv a1, .unset, .unset, .unset, .unset] [(.int bx2), (.int 2), (.ref a1)])
          obtain ⟨T37, h37, X37, e37, W37, V37, st37⟩ := own_stB X36 hx hZ e36 V36_a1 (j := (2 : Int32)) ⟨by decide, by decide⟩ 2 rfl (Nat.le_of_ble_eq_true rfl) (g := (mkF m 123 #[iv p0, iv p1, iv p2, iv p3, iv p4, iv p5, iv 6, iv bx0, iv bx1, iv bx2, iv bx3, iv bx4, iv bx5, iv bx6, rv a1, .unset, .unset, .unset, .unset] [(.int bx2), (.int 2), (.ref a1)])) rfl rfl (hb hby at_123)
          have V37_a1 : Arv Z h37 a1 k_a1 .byte (6 : Int32) [(.int bx0.toInt8.toInt32), (.int bx1.toInt8.toInt32), (.int bx2.toInt8.toInt32), (.int 0), (.int 0), (.int 0)] (.int 0) := V37
          have O37 := O36.wr W37 g_a1
          have Z37 : n0 ≤ h37.size := by rw [W37.size]; exact Z36
          clear O36 Z36 V36_a1 W37
          have N37 := Fr.snoc X37 N36 g_a1
          clear X36 e36
          refine own_st st37 ?_
          clear st37
          show own_Go p e below _ T37 (mkF m 124 #[iv p0, iv p1, iv p2, iv p3, iv p4, iv p5, iv 6, iv bx0, iv bx1, iv bx2, iv bx3, iv bx4, iv bx5, iv bx6, rv a1, .unset, .unset, .unset, .unset] [])
          refine own_st (fun _ k => XS.iload X37.here hx rfl (hb hby at_124) rfl k) ?_
          show own_Go p e below _ T37 (mkF m 126 #[iv p0, iv p1, iv p2, iv p3, iv p4, iv p5, iv 6, iv bx0, iv bx1, iv bx2, iv bx3, iv bx4, iv bx5, iv bx6, rv a1, .unset, .unset, .unset, .unset] [(.int 6)])
          refine own_st (fun _ k => XT.iconstV X37.here hx rfl (3 : Int32) (hb hby at_126) (by decide) k) ?_
          show own_Go p e below _ T37 (mkF m 127 #[iv p0, iv p1, iv p2, iv p3, iv p4, iv p5, iv 6, iv bx0, iv bx1, iv bx2, iv bx3, iv bx4, iv bx5, iv bx6, rv a1, .unset, .unset, .unset, .unset] [(.int 3), (.int 6)])
          refine own_st (fun _ k => XS.icmpNo X37.here hx rfl (hb hby at_127) rfl (XT.ii_le_f (by decide)) k) ?_
          show own_Go p e below _ T37 (mkF m 130 #[iv p0, iv p1, iv p2, iv p3, iv p4, iv p5, iv 6, iv bx0, iv bx1, iv bx2, iv bx3, iv bx4, iv bx5, iv bx6, rv a1, .unset, .unset, .unset, .unset] [])
          refine own_st (fun _ k => XS.aload X37.here hx rfl (hb hby at_130) rfl rfl k) ?_
          show own_Go p e below _ T37 (mkF m 132 #[iv p0, iv p1, iv p2, iv p3, iv p4, iv p5, iv 6, iv bx0, iv bx1, iv bx2, iv bx3, iv bx4, iv bx5, iv bx6, rv a1, .unset, .unset, .unset, .unset] [(.ref a1)])
          refine own_st (fun _ k => XT.iconstV X37.here hx rfl (3 : Int32) (hb hby at_132) (by decide) k) ?_
          show own_Go p e below _ T37 (mkF m 133 #[iv p0, iv p1, iv p2, iv p3, iv p4, iv p5, iv 6, iv bx0, iv bx1, iv bx2, iv bx3, iv bx4, iv bx5, iv bx6, rv a1, .unset, .unset, .unset, .unset] [(.int 3), (.ref a1)])
          refine own_st (fun _ k => XS.iload X37.here hx rfl (hb hby at_133) rfl k) ?_
          show own_Go p e below _ T37 (mkF m 135 #[iv p0, iv p1, iv p2, iv p3, iv p4, iv p5, iv 6, iv bx0, iv bx1, iv bx2, iv bx3, iv bx4, iv bx5, iv bx6, rv a1, .unset, .unset, .unset, .unset] [(.int bx3), (.int 3), (.ref a1)])
          obtain ⟨T38, h38, X38, e38, W38, V38, st38⟩ := own_stB X37 hx hZ e37 V37_a1 (j := (3 : Int32)) ⟨by decide, by decide⟩ 3 rfl (Nat.le_of_ble_eq_true rfl) (g := (mkF m 135 #[iv p0, iv p1, iv p2, iv p3, iv p4, iv p5, iv 6, iv bx0, iv bx1, iv bx2, iv bx3, iv bx4, iv bx5, iv bx6, rv a1, .unset, .unset, .unset, .unset] [(.int bx3), (.int 3), (.ref a1)])) rfl rfl (hb hby at_135)
          have V38_a1 : Arv Z h38 a1 k_a1 .byte (6 : Int32) [(.int bx0.toInt8.toInt32), (.int bx1.toInt8.toInt32), (.int bx2.toInt8.toInt32), (.int bx3.toInt8.toInt32), (.int 0), (.int 0)] (.int 0) := V38
          have O38 := O37.wr W38 g_a1
          have Z38 : n0 ≤ h38.size := by rw [W38.size]; exact Z37
          clear O37 Z37 V37_a1 W38
          have N38 := Fr.snoc X38 N37 g_a1
          clear X37 e37
          refine own_st st38 ?_
          clear st38
          show own_Go p e below _ T38 (mkF m 136 #[iv p0, iv p1, iv p2, iv p3, iv p4, iv p5, iv 6, iv bx0, iv bx1, iv bx2, iv bx3, iv bx4, iv bx5, iv bx6, rv a1, .unset, .unset, .unset, .unset] [])
          refine own_st (fun _ k => XS.iload X38.here hx rfl (hb hby at_136) rfl k) ?_
          show own_Go p e below _ T38 (mkF m 138 #[iv p0, iv p1, iv p2, iv p3, iv p4, iv p5, iv 6, iv bx0, iv bx1, iv bx2, iv bx3, iv bx4, iv bx5, iv bx6, rv a1, .unset, .unset, .unset, .unset] [(.int 6)])
          refine own_st (fun _ k => XT.iconstV X38.here hx rfl (4 : Int32) (hb hby at_138) (by decide) k) ?_
          show own_Go p e below _ T38 (mkF m 139 #[iv p0, iv p1, iv p2, iv p3, iv p4, iv p5, iv 6, iv bx0, iv bx1, iv bx2, iv bx3, iv bx4, iv bx5, iv bx6, rv a1, .unset, .unset, .unset, .unset] [(.int 4), (.int 6)])
          refine own_st (fun _ k => XS.icmpNo X38.here hx rfl (hb hby at_139) rfl (XT.ii_le_f (by decide)) k) ?_
          show own_Go p e below _ T38 (mkF m 142 #[iv p0, iv p1, iv p2, iv p3, iv p4, iv p5, iv 6, iv bx0, iv bx1, iv bx2, iv bx3, iv bx4, iv bx5, iv bx6, rv a1, .unset, .unset, .unset, .unset] [])
          refine own_st (fun _ k => XS.aload X38.here hx rfl (hb hby at_142) rfl rfl k) ?_
          show own_Go p e below _ T38 (mkF m 144 #[iv p0, iv p1, iv p2, iv p3, iv p4, iv p5, iv 6, iv bx0, iv bx1, iv bx2, iv bx3, iv bx4, iv bx5, iv bx6, rv a1, .unset, .unset, .unset, .unset] [(.ref a1)])
          refine own_st (fun _ k => XT.iconstV X38.here hx rfl (4 : Int32) (hb hby at_144) (by decide) k) ?_
          show own_Go p e below _ T38 (mkF m 145 #[iv p0, iv p1, iv p2, iv p3, iv p4, iv p5, iv 6, iv bx0, iv bx1, iv bx2, iv bx3, iv bx4, iv bx5, iv bx6, rv a1, .unset, .unset, .unset, .unset] [(.int 4), (.ref a1)])
          refine own_st (fun _ k => XS.iload X38.here hx rfl (hb hby at_145) rfl k) ?_
          show own_Go p e below _ T38 (mkF m 147 #[iv p0, iv p1, iv p2, iv p3, iv p4, iv p5, iv 6, iv bx0, iv bx1, iv bx2, iv bx3, iv bx4, iv bx5, iv bx6, rv a1, .unset, .unset, .unset, .unset] [(.int bx4), (.int 4), (.ref a1)])
          obtain ⟨T39, h39, X39, e39, W39, V39, st39⟩ := own_stB X38 hx hZ e38 V38_a1 (j := (4 : Int32)) ⟨by decide, by decide⟩ 4 rfl (Nat.le_of_ble_eq_true rfl) (g := (mkF m 147 #[iv p0, iv p1, iv p2, iv p3, iv p4, iv p5, iv 6, iv bx0, iv bx1, iv bx2, iv bx3, iv bx4, iv bx5, iv bx6, rv a1, .unset, .unset, .unset, .unset] [(.int bx4), (.int 4), (.ref a1)])) rfl rfl (hb hby at_147)
          have V39_a1 : Arv Z h39 a1 k_a1 .byte (6 : Int32) [(.int bx0.toInt8.toInt32), (.int bx1.toInt8.toInt32), (.int bx2.toInt8.toInt32), (.int bx3.toInt8.toInt32), (.int bx4.toInt8.toInt32), (.int 0)] (.int 0) := V39
          have O39 := O38.wr W39 g_a1
          have Z39 : n0 ≤ h39.size := by rw [W39.size]; exact Z38
          clear O38 Z38 V38_a1 W39
          have N39 := Fr.snoc X39 N38 g_a1
          clear X38 e38
          refine own_st st39 ?_
          clear st39
          show own_Go p e below _ T39 (mkF m 148 #[iv p0, iv p1, iv p2, iv p3, iv p4, iv p5, iv 6, iv bx0, iv bx1, iv bx2, iv bx3, iv bx4, iv bx5, iv bx6, rv a1, .unset, .unset, .unset, .unset] [])
          refine own_st (fun _ k => XS.iload X39.here hx rfl (hb hby at_148) rfl k) ?_
          show own_Go p e below _ T39 (mkF m 150 #[iv p0, iv p1, iv p2, iv p3, iv p4, iv p5, iv 6, iv bx0, iv bx1, iv bx2, iv bx3, iv bx4, iv bx5, iv bx6, rv a1, .unset, .unset, .unset, .unset] [(.int 6)])
          refine own_st (fun _ k => XT.iconstV X39.here hx rfl (5 : Int32) (hb hby at_150) (by decide) k) ?_
          show own_Go p e below _ T39 (mkF m 151 #[iv p0, iv p1, iv p2, iv p3, iv p4, iv p5, iv 6, iv bx0, iv bx1, iv bx2, iv bx3, iv bx4, iv bx5, iv bx6, rv a1, .unset, .unset, .unset, .unset] [(.int 5), (.int 6)])
          refine own_st (fun _ k => XS.icmpNo X39.here hx rfl (hb hby at_151) rfl (XT.ii_le_f (by decide)) k) ?_
          show own_Go p e below _ T39 (mkF m 154 #[iv p0, iv p1, iv p2, iv p3, iv p4, iv p5, iv 6, iv bx0, iv bx1, iv bx2, iv bx3, iv bx4, iv bx5, iv bx6, rv a1, .unset, .unset, .unset, .unset] [])
          refine own_st (fun _ k => XS.aload X39.here hx rfl (hb hby at_154) rfl rfl k) ?_
          show own_Go p e below _ T39 (mkF m 156 #[iv p0, iv p1, iv p2, iv p3, iv p4, iv p5, iv 6, iv bx0, iv bx1, iv bx2, iv bx3, iv bx4, iv bx5, iv bx6, rv a1, .unset, .unset, .unset, .unset] [(.ref a1)])
          refine own_st (fun _ k => XT.iconstV X39.here hx rfl (5 : Int32) (hb hby at_156) (by decide) k) ?_
          show own_Go p e below _ T39 (mkF m 157 #[iv p0, iv p1, iv p2, iv p3, iv p4, iv p5, iv 6, iv bx0, iv bx1, iv bx2, iv bx3, iv bx4, iv bx5, iv bx6, rv a1, .unset, .unset, .unset, .unset] [(.int 5), (.ref a1)])
          refine own_st (fun _ k => XS.iload X39.here hx rfl (hb hby at_157) rfl k) ?_
          show own_Go p e below _ T39 (mkF m 159 #[iv p0, iv p1, iv p2, iv p3, iv p4, iv p5, iv 6, iv bx0, iv bx1, iv bx2, iv bx3, iv bx4, iv bx5, iv bx6, rv a1, .unset, .unset, .unset, .unset] [(.int bx5), (.int 5), (.ref a1)])
          obtain ⟨T40, h40, X40, e40, W40, V40, st40⟩ := own_stB X39 hx hZ e39 V39_a1 (j := (5 : Int32)) ⟨by decide, by decide⟩ 5 rfl (Nat.le_of_ble_eq_true rfl) (g := (mkF m 159 #[iv p0, iv p1, iv p2, iv p3, iv p4, iv p5, iv 6, iv bx0, iv bx1, iv bx2, iv bx3, iv bx4, iv bx5, iv bx6, rv a1, .unset, .unset, .unset, .unset] [(.int bx5), (.int 5), (.ref a1)])) rfl rfl (hb hby at_159)
          have V40_a1 : Arv Z h40 a1 k_a1 .byte (6 : Int32) [(.int bx0.toInt8.toInt32), (.int bx1.toInt8.toInt32), (.int bx2.toInt8.toInt32), (.int bx3.toInt8.toInt32), (.int bx4.toInt8.toInt32), (.int bx5.toInt8.toInt32)] (.int 0) := V40
          have O40 := O39.wr W40 g_a1
          have Z40 : n0 ≤ h40.size := by rw [W40.size]; exact Z39
          clear O39 Z39 V39_a1 W40
          have N40 := Fr.snoc X40 N39 g_a1
          clear X39 e39
          refine own_st st40 ?_
          clear st40
          show own_Go p e below _ T40 (mkF m 160 #[iv p0, iv p1, iv p2, iv p3, iv p4, iv p5, iv 6, iv bx0, iv bx1, iv bx2, iv bx3, iv bx4, iv bx5, iv bx6, rv a1, .unset, .unset, .unset, .unset] [])
          refine own_st (fun _ k => XS.iload X40.here hx rfl (hb hby at_160) rfl k) ?_
          show own_Go p e below _ T40 (mkF m 162 #[iv p0, iv p1, iv p2, iv p3, iv p4, iv p5, iv 6, iv bx0, iv bx1, iv bx2, iv bx3, iv bx4, iv bx5, iv bx6, rv a1, .unset, .unset, .unset, .unset] [(.int 6)])
          refine own_st (fun _ k => XT.bipushV X40.here hx rfl (6 : Int32) (hb hby at_162) (by decide) k) ?_
          show own_Go p e below _ T40 (mkF m 164 #[iv p0, iv p1, iv p2, iv p3, iv p4, iv p5, iv 6, iv bx0, iv bx1, iv bx2, iv bx3, iv bx4, iv bx5, iv bx6, rv a1, .unset, .unset, .unset, .unset] [(.int 6), (.int 6)])
          refine own_st (fun _ k => XS.icmpYes X40.here hx rfl (pc0 := 164) (pc' := 174) rfl (hb hby at_164) rfl (XT.ii_le_t (by decide)) (by decide) (by decide) k) ?_
          show own_Go p e below _ T40 (mkF m 174 #[iv p0, iv p1, iv p2, iv p3, iv p4, iv p5, iv 6, iv bx0, iv bx1, iv bx2, iv bx3, iv bx4, iv bx5, iv bx6, rv a1, .unset, .unset, .unset, .unset] [])
          refine own_st (fun _ k => XS.aload X40.here hx rfl (hb hby at_174) rfl rfl k) ?_
          show own_Go p e below _ T40 (mkF m 176 #[iv p0, iv p1, iv p2, iv p3, iv p4, iv p5, iv 6, iv bx0, iv bx1, iv bx2, iv bx3, iv bx4, iv bx5, iv bx6, rv a1, .unset, .unset, .unset, .unset] [(.ref a1)])
          have VBx := VB.ext O40.2
          obtain ⟨_, _, ⟨T41, L41, k41, n41⟩, -, X41, ⟨Lc41, hQ41, l41, y41, z41⟩, st41⟩ := Jvm.LawKit.callS X40 hx (y := (⟨"com/example/broken_to_found/brokentofound/watch/UrlList", "byteOrderMarkLength", "([B)I"⟩ : MethodName)) hown (mvT hZ (hw _ (List.mem_of_getElem? (i := 1) rfl))) (mvT hZ (hw _ (List.mem_of_getElem? (i := 2) rfl))) (mvT hZ (hw _ (List.mem_of_getElem? (i := 3) rfl))) (mvT hZ (hw _ (List.mem_of_getElem? (i := 4) rfl))) (by decide) (backOf (W := 0) (own_rm_bom l Z a0 hw [] a1 k_a1 (6 : Int32) [(.int bx0.toInt8.toInt32), (.int bx1.toInt8.toInt32), (.int bx2.toInt8.toInt32), (.int bx3.toInt8.toInt32), (.int bx4.toInt8.toInt32), (.int bx5.toInt8.toInt32)] bx0.toInt8.toInt32 bx1.toInt8.toInt32 bx2.toInt8.toInt32 w_B kB h40 n0 Z40 V40_a1 VBx (by decide) rfl rfl rfl (S_B.ext O40.2)) hZ (hw _ (List.mem_of_getElem? (i := 4) rfl)) (hw _ (List.mem_of_getElem? (i := 3) rfl)) (by decide) (by decide)) (g := (mkF m 176 #[iv p0, iv p1, iv p2, iv p3, iv p4, iv p5, iv 6, iv bx0, iv bx1, iv bx2, iv bx3, iv bx4, iv bx5, iv bx6, rv a1, .unset, .unset, .unset, .unset] [(.ref a1)])) rfl (by rw [hml]; rfl) (argsL := [(.ref a1)]) (rest := []) (lenOf own_pd3 rfl) rfl (by show 2 * 0 + _ ≤ _; exact Nat.le_of_eq rfl) (hb hby at_176) (fun _ _ => ⟨rfl, e40, (by decide : 1 + 0 ≤ _), (by decide : 6 + 0 ≤ _)⟩)
          dsimp only [Pt.U, Pt.locs, Pt.cells, Pt.slots] at X41 l41 y41 z41 st41 hQ41
          subst l41 y41 z41
          obtain ⟨rfl, N41, eh41⟩ := hQ41
          have M41 := Fr.app N40 N41
          refine own_st st41 ?_
          clear N40 X40 N41 e40 st41
          show own_Go p e below _ T41 (mkF m 179 #[iv p0, iv p1, iv p2, iv p3, iv p4, iv p5, iv 6, iv bx0, iv bx1, iv bx2, iv bx3, iv bx4, iv bx5, iv bx6, rv a1, .unset, .unset, .unset, .unset] [(.int (own_bom bx0.toInt8.toInt32 bx1.toInt8.toInt32 bx2.toInt8.toInt32))])
          refine own_st (fun _ k => XS.istore X41.here hx rfl (hb hby at_179) rfl (l' := #[iv p0, iv p1, iv p2, iv p3, iv p4, iv p5, iv 6, iv bx0, iv bx1, iv bx2, iv bx3, iv bx4, iv bx5, iv bx6, rv a1, iv (own_bom bx0.toInt8.toInt32 bx1.toInt8.toInt32 bx2.toInt8.toInt32), .unset, .unset, .unset]) rfl k) ?_
          show own_Go p e below _ T41 (mkF m 181 #[iv p0, iv p1, iv p2, iv p3, iv p4, iv p5, iv 6, iv bx0, iv bx1, iv bx2, iv bx3, iv bx4, iv bx5, iv bx6, rv a1, iv (own_bom bx0.toInt8.toInt32 bx1.toInt8.toInt32 bx2.toInt8.toInt32), .unset, .unset, .unset] [])
          refine own_st (fun _ k => XS.iload X41.here hx rfl (hb hby at_181) rfl k) ?_
          show own_Go p e below _ T41 (mkF m 183 #[iv p0, iv p1, iv p2, iv p3, iv p4, iv p5, iv 6, iv bx0, iv bx1, iv bx2, iv bx3, iv bx4, iv bx5, iv bx6, rv a1, iv (own_bom bx0.toInt8.toInt32 bx1.toInt8.toInt32 bx2.toInt8.toInt32), .unset, .unset, .unset] [(.int 6)])
          refine own_st (fun _ k => XT.iconstV X41.here hx rfl (3 : Int32) (hb hby at_183) (by decide) k) ?_
          show own_Go p e below _ T41 (mkF m 184 #[iv p0, iv p1, iv p2, iv p3, iv p4, iv p5, iv 6, iv bx0, iv bx1, iv bx2, iv bx3, iv bx4, iv bx5, iv bx6, rv a1, iv (own_bom bx0.toInt8.toInt32 bx1.toInt8.toInt32 bx2.toInt8.toInt32), .unset, .unset, .unset] [(.int 3), (.int 6)])
          have KE : ∀ mk ex : Int32, ex = (own_bom bx0.toInt8.toInt32 bx1.toInt8.toInt32 bx2.toInt8.toInt32) → own_Go p e below (own_K s (own_Q_law Z p0 p1 p2 p3 p4 p5 w_B kB h0 n0) 16 128) T41 (mkF m 227 #[iv p0, iv p1, iv p2, iv p3, iv p4, iv p5, iv 6, iv bx0, iv bx1, iv bx2, iv bx3, iv bx4, iv bx5, iv bx6, rv a1, iv (own_bom bx0.toInt8.toInt32 bx1.toInt8.toInt32 bx2.toInt8.toInt32), iv mk, iv ex, .unset] []) := by
            intro mk ex hex
            show own_Go p e below _ T41 (mkF m 227 #[iv p0, iv p1, iv p2, iv p3, iv p4, iv p5, iv 6, iv bx0, iv bx1, iv bx2, iv bx3, iv bx4, iv bx5, iv bx6, rv a1, iv (own_bom bx0.toInt8.toInt32 bx1.toInt8.toInt32 bx2.toInt8.toInt32), iv mk, iv ex, .unset] [])
            refine own_st (fun _ k => XS.aload X41.here hx rfl (hb hby at_227) rfl rfl k) ?_
            show own_Go p e below _ T41 (mkF m 229 #[iv p0, iv p1, iv p2, iv p3, iv p4, iv p5, iv 6, iv bx0, iv bx1, iv bx2, iv bx3, iv bx4, iv bx5, iv bx6, rv a1, iv (own_bom bx0.toInt8.toInt32 bx1.toInt8.toInt32 bx2.toInt8.toInt32), iv mk, iv ex, .unset] [(.ref a1)])
            refine own_st (fun _ k => own_len X41 hx hZ eh41 V40_a1 rfl rfl (hb hby at_229) k) ?_
            show own_Go p e below _ T41 (mkF m 230 #[iv p0, iv p1, iv p2, iv p3, iv p4, iv p5, iv 6, iv bx0, iv bx1, iv bx2, iv bx3, iv bx4, iv bx5, iv bx6, rv a1, iv (own_bom bx0.toInt8.toInt32 bx1.toInt8.toInt32 bx2.toInt8.toInt32), iv mk, iv ex, .unset] [(.int 6)])
            refine own_st (fun _ k => XS.iload X41.here hx rfl (hb hby at_230) rfl k) ?_
            show own_Go p e below _ T41 (mkF m 232 #[iv p0, iv p1, iv p2, iv p3, iv p4, iv p5, iv 6, iv bx0, iv bx1, iv bx2, iv bx3, iv bx4, iv bx5, iv bx6, rv a1, iv (own_bom bx0.toInt8.toInt32 bx1.toInt8.toInt32 bx2.toInt8.toInt32), iv mk, iv ex, .unset] [(.int 6), (.int 6)])
            refine own_st (fun _ k => XS.icmpNo X41.here hx rfl (hb hby at_232) rfl (XT.ii_ne_f rfl) k) ?_
            show own_Go p e below _ T41 (mkF m 235 #[iv p0, iv p1, iv p2, iv p3, iv p4, iv p5, iv 6, iv bx0, iv bx1, iv bx2, iv bx3, iv bx4, iv bx5, iv bx6, rv a1, iv (own_bom bx0.toInt8.toInt32 bx1.toInt8.toInt32 bx2.toInt8.toInt32), iv mk, iv ex, .unset] [])
            refine own_st (fun _ k => XS.iload X41.here hx rfl (hb hby at_235) rfl k) ?_
            show own_Go p e below _ T41 (mkF m 237 #[iv p0, iv p1, iv p2, iv p3, iv p4, iv p5, iv 6, iv bx0, iv bx1, iv bx2, iv bx3, iv bx4, iv bx5, iv bx6, rv a1, iv (own_bom bx0.toInt8.toInt32 bx1.toInt8.toInt32 bx2.toInt8.toInt32), iv mk, iv ex, .unset] [(.int 6)])
            refine own_st (fun _ k => XS.ifNo X41.here hx rfl (hb hby at_237) rfl (XT.i0_le_f (by decide)) k) ?_
            show own_Go p e below _ T41 (mkF m 240 #[iv p0, iv p1, iv p2, iv p3, iv p4, iv p5, iv 6, iv bx0, iv bx1, iv bx2, iv bx3, iv bx4, iv bx5, iv bx6, rv a1, iv (own_bom bx0.toInt8.toInt32 bx1.toInt8.toInt32 bx2.toInt8.toInt32), iv mk, iv ex, .unset] [])
            refine own_st (fun _ k => XS.aload X41.here hx rfl (hb hby at_240) rfl rfl k) ?_
            show own_Go p e below _ T41 (mkF m 242 #[iv p0, iv p1, iv p2, iv p3, iv p4, iv p5, iv 6, iv bx0, iv bx1, iv bx2, iv bx3, iv bx4, iv bx5, iv bx6, rv a1, iv (own_bom bx0.toInt8.toInt32 bx1.toInt8.toInt32 bx2.toInt8.toInt32), iv mk, iv ex, .unset] [(.ref a1)])
            refine own_st (fun _ k => XT.iconstV X41.here hx rfl (0 : Int32) (hb hby at_242) (by decide) k) ?_
            show own_Go p e below _ T41 (mkF m 243 #[iv p0, iv p1, iv p2, iv p3, iv p4, iv p5, iv 6, iv bx0, iv bx1, iv bx2, iv bx3, iv bx4, iv bx5, iv bx6, rv a1, iv (own_bom bx0.toInt8.toInt32 bx1.toInt8.toInt32 bx2.toInt8.toInt32), iv mk, iv ex, .unset] [(.int 0), (.ref a1)])
            refine own_st (fun _ k => own_ldB X41 hx hZ eh41 V40_a1 ⟨by decide, by decide⟩ (v := (.int bx0.toInt8.toInt32)) rfl rfl rfl (hb hby at_243) k) ?_
            show own_Go p e below _ T41 (mkF m 244 #[iv p0, iv p1, iv p2, iv p3, iv p4, iv p5, iv 6, iv bx0, iv bx1, iv bx2, iv bx3, iv bx4, iv bx5, iv bx6, rv a1, iv (own_bom bx0.toInt8.toInt32 bx1.toInt8.toInt32 bx2.toInt8.toInt32), iv mk, iv ex, .unset] [(.int bx0.toInt8.toInt32)])
            refine own_st (fun _ k => XS.iload X41.here hx rfl (hb hby at_244) rfl k) ?_
            show own_Go p e below _ T41 (mkF m 246 #[iv p0, iv p1, iv p2, iv p3, iv p4, iv p5, iv 6, iv bx0, iv bx1, iv bx2, iv bx3, iv bx4, iv bx5, iv bx6, rv a1, iv (own_bom bx0.toInt8.toInt32 bx1.toInt8.toInt32 bx2.toInt8.toInt32), iv mk, iv ex, .unset] [(.int bx0), (.int bx0.toInt8.toInt32)])
            refine own_st (fun _ k => XS.icmpNo X41.here hx rfl (hb hby at_246) rfl (XT.ii_ne_f ok0) k) ?_
            show own_Go p e below _ T41 (mkF m 249 #[iv p0, iv p1, iv p2, iv p3, iv p4, iv p5, iv 6, iv bx0, iv bx1, iv bx2, iv bx3, iv bx4, iv bx5, iv bx6, rv a1, iv (own_bom bx0.toInt8.toInt32 bx1.toInt8.toInt32 bx2.toInt8.toInt32), iv mk, iv ex, .unset] [])
            refine own_st (fun _ k => XS.iload X41.here hx rfl (hb hby at_249) rfl k) ?_
            show own_Go p e below _ T41 (mkF m 251 #[iv p0, iv p1, iv p2, iv p3, iv p4, iv p5, iv 6, iv bx0, iv bx1, iv bx2, iv bx3, iv bx4, iv bx5, iv bx6, rv a1, iv (own_bom bx0.toInt8.toInt32 bx1.toInt8.toInt32 bx2.toInt8.toInt32), iv mk, iv ex, .unset] [(.int 6)])
            refine own_st (fun _ k => XT.iconstV X41.here hx rfl (1 : Int32) (hb hby at_251) (by decide) k) ?_
            show own_Go p e below _ T41 (mkF m 252 #[iv p0, iv p1, iv p2, iv p3, iv p4, iv p5, iv 6, iv bx0, iv bx1, iv bx2, iv bx3, iv bx4, iv bx5, iv bx6, rv a1, iv (own_bom bx0.toInt8.toInt32 bx1.toInt8.toInt32 bx2.toInt8.toInt32), iv mk, iv ex, .unset] [(.int 1), (.int 6)])
            refine own_st (fun _ k => XS.icmpNo X41.here hx rfl (hb hby at_252) rfl (XT.ii_le_f (by decide)) k) ?_
            show own_Go p e below _ T41 (mkF m 255 #[iv p0, iv p1, iv p2, iv p3, iv p4, iv p5, iv 6, iv bx0, iv bx1, iv bx2, iv bx3, iv bx4, iv bx5, iv bx6, rv a1, iv (own_bom bx0.toInt8.toInt32 bx1.toInt8.toInt32 bx2.toInt8.toInt32), iv mk, iv ex, .unset] [])
            refine own_st (fun _ k => XS.aload X41.here hx rfl (hb hby at_255) rfl rfl k) ?_
            show own_Go p e below _ T41 (mkF m 257 #[iv p0, iv p1, iv p2, iv p3, iv p4, iv p5, iv 6, iv bx0, iv bx1, iv bx2, iv bx3, iv bx4, iv bx5, iv bx6, rv a1, iv (own_bom bx0.toInt8.toInt32 bx1.toInt8.toInt32 bx2.toInt8.toInt32), iv mk, iv ex, .unset] [(.ref a1)])
            refine own_st (fun _ k => XT.iconstV X41.here hx rfl (1 : Int32) (hb hby at_257) (by decide) k) ?_
            show own_Go p e below _ T41 (mkF m 258 #[iv p0, iv p1, iv p2, iv p3, iv p4, iv p5, iv 6, iv bx0, iv bx1, iv bx2, iv bx3, iv bx4, iv bx5, iv bx6, rv a1, iv (own_bom bx0.toInt8.toInt32 bx1.toInt8.toInt32 bx2.toInt8.toInt32), iv mk, iv ex, .unset] [(.int 1), (.ref a1)])
            refine own_st (fun _ k => own_ldB X41 hx hZ eh41 V40_a1 ⟨by decide, by decide⟩ (v := (.int bx1.toInt8.toInt32)) rfl rfl rfl (hb hby at_258) k) ?_
            show own_Go p e below _ T41 (mkF m 259 #[iv p0, iv p1, iv p2, iv p3, iv p4, iv p5, iv 6, iv bx0, iv bx1, iv bx2, iv bx3, iv bx4, iv bx5, iv bx6, rv a1, iv (own_bom bx0.toInt8.toInt32 bx1.toInt8.toInt32 bx2.toInt8.toInt32), iv mk, iv ex, .unset] [(.int bx1.toInt8.toInt32)])
            refine own_st (fun _ k => XS.iload X41.here hx rfl (hb hby at_259) rfl k) ?_
            show own_Go p e below _ T41 (mkF m 261 #[iv p0, iv p1, iv p2, iv p3, iv p4, iv p5, iv 6, iv bx0, iv bx1, iv bx2, iv bx3, iv bx4, iv bx5, iv bx6, rv a1, iv (own_bom bx0.toInt8.toInt32 bx1.toInt8.toInt32 bx2.toInt8.toInt32), iv mk, iv ex, .unset] [(.int bx1), (.int bx1.toInt8.toInt32)])
            refine own_st (fun _ k => XS.icmpNo X41.here hx rfl (hb hby at_261) rfl (XT.ii_ne_f ok1) k) ?_
            show own_Go p e below _ T41 (mkF m 264 #[iv p0, iv p1, iv p2, iv p3, iv p4, iv p5, iv 6, iv bx0, iv bx1, iv bx2, iv bx3, iv bx4, iv bx5, iv bx6, rv a1, iv (own_bom bx0.toInt8.toInt32 bx1.toInt8.toInt32 bx2.toInt8.toInt32), iv mk, iv ex, .unset] [])
            refine own_st (fun _ k => XS.iload X41.here hx rfl (hb hby at_264) rfl k) ?_
            show own_Go p e below _ T41 (mkF m 266 #[iv p0, iv p1, iv p2, iv p3, iv p4, iv p5, iv 6, iv bx0, iv bx1, iv bx2, iv bx3, iv bx4, iv bx5, iv bx6, rv a1, iv (own_bom bx0.toInt8.toInt32 bx1.toInt8.toInt32 bx2.toInt8.toInt32), iv mk, iv ex, .unset] [(.int 6)])
            refine own_st (fun _ k => XT.iconstV X41.here hx rfl (2 : Int32) (hb hby at_266) (by decide) k) ?_
            show own_Go p e below _ T41 (mkF m 267 #[iv p0, iv p1, iv p2, iv p3, iv p4, iv p5, iv 6, iv bx0, iv bx1, iv bx2, iv bx3, iv bx4, iv bx5, iv bx6, rv a1, iv (own_bom bx0.toInt8.toInt32 bx1.toInt8.toInt32 bx2.toInt8.toInt32), iv mk, iv ex, .unset] [(.int 2), (.int 6)])
            refine own_st (fun _ k => XS.icmpNo X41.here hx rfl (hb hby at_267) rfl (XT.ii_le_f (by decide)) k) ?_
            show own_Go p e below _ T41 (mkF m 270 #[iv p0, iv p1, iv p2, iv p3, iv p4, iv p5, iv 6, iv bx0, iv bx1, iv bx2, iv bx3, iv bx4, iv bx5, iv bx6, rv a1, iv (own_bom bx0.toInt8.toInt32 bx1.toInt8.toInt32 bx2.toInt8.toInt32), iv mk, iv ex, .unset] [])
            refine own_st (fun _ k => XS.aload X41.here hx rfl (hb hby at_270) rfl rfl k) ?_
            show own_Go p e below _ T41 (mkF m 272 #[iv p0, iv p1, iv p2, iv p3, iv p4, iv p5, iv 6, iv bx0, iv bx1, iv bx2, iv bx3, iv bx4, iv bx5, iv bx6, rv a1, iv (own_bom bx0.toInt8.toInt32 bx1.toInt8.toInt32 bx2.toInt8.toInt32), iv mk, iv ex, .unset] [(.ref a1)])
            refine own_st (fun _ k => XT.iconstV X41.here hx rfl (2 : Int32) (hb hby at_272) (by decide) k) ?_
            show own_Go p e below _ T41 (mkF m 273 #[iv p0, iv p1, iv p2, iv p3, iv p4, iv p5, iv 6, iv bx0, iv bx1, iv bx2, iv bx3, iv bx4, iv bx5, iv bx6, rv a1, iv (own_bom bx0.toInt8.toInt32 bx1.toInt8.toInt32 bx2.toInt8.toInt32), iv mk, iv ex, .unset] [(.int 2), (.ref a1)])
            refine own_st (fun _ k => own_ldB X41 hx hZ eh41 V40_a1 ⟨by decide, by decide⟩ (v := (.int bx2.toInt8.toInt32)) rfl rfl rfl (hb hby at_273) k) ?_
            show own_Go p e below _ T41 (mkF m 274 #[iv p0, iv p1, iv p2, iv p3, iv p4, iv p5, iv 6, iv bx0, iv bx1, iv bx2, iv bx3, iv bx4, iv bx5, iv bx6, rv a1, iv (own_bom bx0.toInt8.toInt32 bx1.toInt8.toInt32 bx2.toInt8.toInt32), iv mk, iv ex, .unset] [(.int bx2.toInt8.toInt32)])
            refine own_st (fun _ k => XS.iload X41.here hx rfl (hb hby at_274) rfl k) ?_
            show own_Go p e below _ T41 (mkF m 276 #[iv p0, iv p1, iv p2, iv p3, iv p4, iv p5, iv 6, iv bx0, iv bx1, iv bx2, iv bx3, iv bx4, iv bx5, iv bx6, rv a1, iv (own_bom bx0.toInt8.toInt32 bx1.toInt8.toInt32 bx2.toInt8.toInt32), iv mk, iv ex, .unset] [(.int bx2), (.int bx2.toInt8.toInt32)])
            refine own_st (fun _ k => XS.icmpNo X41.here hx rfl (hb hby at_276) rfl (XT.ii_ne_f ok2) k) ?_
            show own_Go p e below _ T41 (mkF m 279 #[iv p0, iv p1, iv p2, iv p3, iv p4, iv p5, iv 6, iv bx0, iv bx1, iv bx2, iv bx3, iv bx4, iv bx5, iv bx6, rv a1, iv (own_bom bx0.toInt8.toInt32 bx1.toInt8.toInt32 bx2.toInt8.toInt32), iv mk, iv ex, .unset] [])
            refine own_st (fun _ k => XS.iload X41.here hx rfl (hb hby at_279) rfl k) ?_
            show own_Go p e below _ T41 (mkF m 281 #[iv p0, iv p1, iv p2, iv p3, iv p4, iv p5, iv 6, iv bx0, iv bx1, iv bx2, iv bx3, iv bx4, iv bx5, iv bx6, rv a1, iv (own_bom bx0.toInt8.toInt32 bx1.toInt8.toInt32 bx2.toInt8.toInt32), iv mk, iv ex, .unset] [(.int 6)])
            refine own_st (fun _ k => XT.iconstV X41.here hx rfl (3 : Int32) (hb hby at_281) (by decide) k) ?_
            show own_Go p e below _ T41 (mkF m 282 #[iv p0, iv p1, iv p2, iv p3, iv p4, iv p5, iv 6, iv bx0, iv bx1, iv bx2, iv bx3, iv bx4, iv bx5, iv bx6, rv a1, iv (own_bom bx0.toInt8.toInt32 bx1.toInt8.toInt32 bx2.toInt8.toInt32), iv mk, iv ex, .unset] [(.int 3), (.int 6)])
            refine own_st (fun _ k => XS.icmpNo X41.here hx rfl (hb hby at_282) rfl (XT.ii_le_f (by decide)) k) ?_
            show own_Go p e below _ T41 (mkF m 285 #[iv p0, iv p1, iv p2, iv p3, iv p4, iv p5, iv 6, iv bx0, iv bx1, iv bx2, iv bx3, iv bx4, iv bx5, iv bx6, rv a1, iv (own_bom bx0.toInt8.toInt32 bx1.toInt8.toInt32 bx2.toInt8.toInt32), iv mk, iv ex, .unset] [])
            refine own_st (fun _ k => XS.aload X41.here hx rfl (hb hby at_285) rfl rfl k) ?_
            show own_Go p e below _ T41 (mkF m 287 #[iv p0, iv p1, iv p2, iv p3, iv p4, iv p5, iv 6, iv bx0, iv bx1, iv bx2, iv bx3, iv bx4, iv bx5, iv bx6, rv a1, iv (own_bom bx0.toInt8.toInt32 bx1.toInt8.toInt32 bx2.toInt8.toInt32), iv mk, iv ex, .unset] [(.ref a1)])
            refine own_st (fun _ k => XT.iconstV X41.here hx rfl (3 : Int32) (hb hby at_287) (by decide) k) ?_
            show own_Go p e below _ T41 (mkF m 288 #[iv p0, iv p1, iv p2, iv p3, iv p4, iv p5, iv 6, iv bx0, iv bx1, iv bx2, iv bx3, iv bx4, iv bx5, iv bx6, rv a1, iv (own_bom bx0.toInt8.toInt32 bx1.toInt8.toInt32 bx2.toInt8.toInt32), iv mk, iv ex, .unset] [(.int 3), (.ref a1)])
            refine own_st (fun _ k => own_ldB X41 hx hZ eh41 V40_a1 ⟨by decide, by decide⟩ (v := (.int bx3.toInt8.toInt32)) rfl rfl rfl (hb hby at_288) k) ?_
            show own_Go p e below _ T41 (mkF m 289 #[iv p0, iv p1, iv p2, iv p3, iv p4, iv p5, iv 6, iv bx0, iv bx1, iv bx2, iv bx3, iv bx4, iv bx5, iv bx6, rv a1, iv (own_bom bx0.toInt8.toInt32 bx1.toInt8.toInt32 bx2.toInt8.toInt32), iv mk, iv ex, .unset] [(.int bx3.toInt8.toInt32)])
            refine own_st (fun _ k => XS.iload X41.here hx rfl (hb hby at_289) rfl k) ?_
            show own_Go p e below _ T41 (mkF m 291 #[iv p0, iv p1, iv p2, iv p3, iv p4, iv p5, iv 6, iv bx0, iv bx1, iv bx2, iv bx3, iv bx4, iv bx5, iv bx6, rv a1, iv (own_bom bx0.toInt8.toInt32 bx1.toInt8.toInt32 bx2.toInt8.toInt32), iv mk, iv ex, .unset] [(.int bx3), (.int bx3.toInt8.toInt32)])
            refine own_st (fun _ k => XS.icmpNo X41.here hx rfl (hb hby at_291) rfl (XT.ii_ne_f ok3) k) ?_
            show own_Go p e below _ T41 (mkF m 294 #[iv p0, iv p1, iv p2, iv p3, iv p4, iv p5, iv 6, iv bx0, iv bx1, iv bx2, iv bx3, iv bx4, iv bx5, iv bx6, rv a1, iv (own_bom bx0.toInt8.toInt32 bx1.toInt8.toInt32 bx2.toInt8.toInt32), iv mk, iv ex, .unset] [])
            refine own_st (fun _ k => XT.iconstV X41.here hx rfl (1 : Int32) (hb hby at_294) (by decide) k) ?_
            show own_Go p e below _ T41 (mkF m 295 #[iv p0, iv p1, iv p2, iv p3, iv p4, iv p5, iv 6, iv bx0, iv bx1, iv bx2, iv bx3, iv bx4, iv bx5, iv bx6, rv a1, iv (own_bom bx0.toInt8.toInt32 bx1.toInt8.toInt32 bx2.toInt8.toInt32), iv mk, iv ex, .unset] [(.int 1)])
            refine own_st (fun _ k => XS.goto X41.here hx rfl (pc0 := 295) (pc' := 299) rfl (hb hby at_295) (by decide) (by decide) k) ?_
            show own_Go p e below _ T41 (mkF m 299 #[iv p0, iv p1, iv p2, iv p3, iv p4, iv p5, iv 6, iv bx0, iv bx1, iv bx2, iv bx3, iv bx4, iv bx5, iv bx6, rv a1, iv (own_bom bx0.toInt8.toInt32 bx1.toInt8.toInt32 bx2.toInt8.toInt32), iv mk, iv ex, .unset] [(.int 1)])
            refine own_st (fun _ k => XS.istore X41.here hx rfl (hb hby at_299) rfl (l' := #[iv p0, iv p1, iv p2, iv p3, iv p4, iv p5, iv 6, iv bx0, iv bx1, iv bx2, iv bx3, iv bx4, iv bx5, iv bx6, rv a1, iv (own_bom bx0.toInt8.toInt32 bx1.toInt8.toInt32 bx2.toInt8.toInt32), iv mk, iv ex, iv 1]) rfl k) ?_
            show own_Go p e below _ T41 (mkF m 301 #[iv p0, iv p1, iv p2, iv p3, iv p4, iv p5, iv 6, iv bx0, iv bx1, iv bx2, iv bx3, iv bx4, iv bx5, iv bx6, rv a1, iv (own_bom bx0.toInt8.toInt32 bx1.toInt8.toInt32 bx2.toInt8.toInt32), iv mk, iv ex, iv 1] [])
            refine own_st (fun _ k => XS.iload X41.here hx rfl (hb hby at_301) rfl k) ?_
            show own_Go p e below _ T41 (mkF m 303 #[iv p0, iv p1, iv p2, iv p3, iv p4, iv p5, iv 6, iv bx0, iv bx1, iv bx2, iv bx3, iv bx4, iv bx5, iv bx6, rv a1, iv (own_bom bx0.toInt8.toInt32 bx1.toInt8.toInt32 bx2.toInt8.toInt32), iv mk, iv ex, iv 1] [(.int (own_bom bx0.toInt8.toInt32 bx1.toInt8.toInt32 bx2.toInt8.toInt32))])
            refine own_st (fun _ k => XS.iload X41.here hx rfl (hb hby at_303) rfl k) ?_
            show own_Go p e below _ T41 (mkF m 305 #[iv p0, iv p1, iv p2, iv p3, iv p4, iv p5, iv 6, iv bx0, iv bx1, iv bx2, iv bx3, iv bx4, iv bx5, iv bx6, rv a1, iv (own_bom bx0.toInt8.toInt32 bx1.toInt8.toInt32 bx2.toInt8.toInt32), iv mk, iv ex, iv 1] [(.int ex), (.int (own_bom bx0.toInt8.toInt32 bx1.toInt8.toInt32 bx2.toInt8.toInt32))])
            refine own_st (fun _ k => XS.icmpNo X41.here hx rfl (hb hby at_305) rfl (XT.ii_ne_f hex.symm) k) ?_
            show own_Go p e below _ T41 (mkF m 308 #[iv p0, iv p1, iv p2, iv p3, iv p4, iv p5, iv 6, iv bx0, iv bx1, iv bx2, iv bx3, iv bx4, iv bx5, iv bx6, rv a1, iv (own_bom bx0.toInt8.toInt32 bx1.toInt8.toInt32 bx2.toInt8.toInt32), iv mk, iv ex, iv 1] [])
            refine own_st (fun _ k => XS.iload X41.here hx rfl (hb hby at_308) rfl k) ?_
            show own_Go p e below _ T41 (mkF m 310 #[iv p0, iv p1, iv p2, iv p3, iv p4, iv p5, iv 6, iv bx0, iv bx1, iv bx2, iv bx3, iv bx4, iv bx5, iv bx6, rv a1, iv (own_bom bx0.toInt8.toInt32 bx1.toInt8.toInt32 bx2.toInt8.toInt32), iv mk, iv ex, iv 1] [(.int 1)])
            refine own_st (fun _ k => XS.ifNo X41.here hx rfl (hb hby at_310) rfl (XT.i0_eq_f (by decide)) k) ?_
            show own_Go p e below _ T41 (mkF m 313 #[iv p0, iv p1, iv p2, iv p3, iv p4, iv p5, iv 6, iv bx0, iv bx1, iv bx2, iv bx3, iv bx4, iv bx5, iv bx6, rv a1, iv (own_bom bx0.toInt8.toInt32 bx1.toInt8.toInt32 bx2.toInt8.toInt32), iv mk, iv ex, iv 1] [])
            refine own_st (fun _ k => XT.iconstV X41.here hx rfl (1 : Int32) (hb hby at_313) (by decide) k) ?_
            show own_Go p e below _ T41 (mkF m 314 #[iv p0, iv p1, iv p2, iv p3, iv p4, iv p5, iv 6, iv bx0, iv bx1, iv bx2, iv bx3, iv bx4, iv bx5, iv bx6, rv a1, iv (own_bom bx0.toInt8.toInt32 bx1.toInt8.toInt32 bx2.toInt8.toInt32), iv mk, iv ex, iv 1] [(.int 1)])
            refine own_st (fun _ k => XS.goto X41.here hx rfl (pc0 := 314) (pc' := 318) rfl (hb hby at_314) (by decide) (by decide) k) ?_
            show own_Go p e below _ T41 (mkF m 318 #[iv p0, iv p1, iv p2, iv p3, iv p4, iv p5, iv 6, iv bx0, iv bx1, iv bx2, iv bx3, iv bx4, iv bx5, iv bx6, rv a1, iv (own_bom bx0.toInt8.toInt32 bx1.toInt8.toInt32 bx2.toInt8.toInt32), iv mk, iv ex, iv 1] [(.int 1)])
            refine own_retN X41 hx Bd.notSynchronized (t := .boolean) Bd.returns (by simp) (hb hby at_318) (by decide) (by decide) ?_
            rw [eh41]
            exact ⟨rfl, M41⟩
          refine own_st (fun _ k => XS.icmpNo X41.here hx rfl (hb hby at_184) rfl (XT.ii_lt_f (by decide)) k) ?_
          show own_Go p e below _ T41 (mkF m 187 #[iv p0, iv p1, iv p2, iv p3, iv p4, iv p5, iv 6, iv bx0, iv bx1, iv bx2, iv bx3, iv bx4, iv bx5, iv bx6, rv a1, iv (own_bom bx0.toInt8.toInt32 bx1.toInt8.toInt32 bx2.toInt8.toInt32), .unset, .unset, .unset] [])
          refine own_st (fun _ k => XS.iload X41.here hx rfl (hb hby at_187) rfl k) ?_
          show own_Go p e below _ T41 (mkF m 189 #[iv p0, iv p1, iv p2, iv p3, iv p4, iv p5, iv 6, iv bx0, iv bx1, iv bx2, iv bx3, iv bx4, iv bx5, iv bx6, rv a1, iv (own_bom bx0.toInt8.toInt32 bx1.toInt8.toInt32 bx2.toInt8.toInt32), .unset, .unset, .unset] [(.int bx0)])
          refine own_st (fun _ k => XT.bipushV X41.here hx rfl (-17 : Int32) (hb hby at_189) (by decide) k) ?_
          show own_Go p e below _ T41 (mkF m 191 #[iv p0, iv p1, iv p2, iv p3, iv p4, iv p5, iv 6, iv bx0, iv bx1, iv bx2, iv bx3, iv bx4, iv bx5, iv bx6, rv a1, iv (own_bom bx0.toInt8.toInt32 bx1.toInt8.toInt32 bx2.toInt8.toInt32), .unset, .unset, .unset] [(.int (-17)), (.int bx0)])
          by_cases cm0 : bx0 = (-17 : Int32)
          · refine own_st (fun _ k => XS.icmpNo X41.here hx rfl (hb hby at_191) rfl (XT.ii_ne_f cm0) k) ?_
            show own_Go p e below _ T41 (mkF m 194 #[iv p0, iv p1, iv p2, iv p3, iv p4, iv p5, iv 6, iv bx0, iv bx1, iv bx2, iv bx3, iv bx4, iv bx5, iv bx6, rv a1, iv (own_bom bx0.toInt8.toInt32 bx1.toInt8.toInt32 bx2.toInt8.toInt32), .unset, .unset, .unset] [])
            refine own_st (fun _ k => XS.iload X41.here hx rfl (hb hby at_194) rfl k) ?_
            show own_Go p e below _ T41 (mkF m 196 #[iv p0, iv p1, iv p2, iv p3, iv p4, iv p5, iv 6, iv bx0, iv bx1, iv bx2, iv bx3, iv bx4, iv bx5, iv bx6, rv a1, iv (own_bom bx0.toInt8.toInt32 bx1.toInt8.toInt32 bx2.toInt8.toInt32), .unset, .unset, .unset] [(.int bx1)])
            refine own_st (fun _ k => XT.bipushV X41.here hx rfl (-69 : Int32) (hb hby at_196) (by decide) k) ?_
            show own_Go p e below _ T41 (mkF m 198 #[iv p0, iv p1, iv p2, iv p3, iv p4, iv p5, iv 6, iv bx0, iv bx1, iv bx2, iv bx3, iv bx4, iv bx5, iv bx6, rv a1, iv (own_bom bx0.toInt8.toInt32 bx1.toInt8.toInt32 bx2.toInt8.toInt32), .unset, .unset, .unset] [(.int (-69)), (.int bx1)])
            by_cases cm1 : bx1 = (-69 : Int32)
            · refine own_st (fun _ k => XS.icmpNo X41.here hx rfl (hb hby at_198) rfl (XT.ii_ne_f cm1) k) ?_
              show own_Go p e below _ T41 (mkF m 201 #[iv p0, iv p1, iv p2, iv p3, iv p4, iv p5, iv 6, iv bx0, iv bx1, iv bx2, iv bx3, iv bx4, iv bx5, iv bx6, rv a1, iv (own_bom bx0.toInt8.toInt32 bx1.toInt8.toInt32 bx2.toInt8.toInt32), .unset, .unset, .unset] [])
              refine own_st (fun _ k => XS.iload X41.here hx rfl (hb hby at_201) rfl k) ?_
              show own_Go p e below _ T41 (mkF m 203 #[iv p0, iv p1, iv p2, iv p3, iv p4, iv p5, iv 6, iv bx0, iv bx1, iv bx2, iv bx3, iv bx4, iv bx5, iv bx6, rv a1, iv (own_bom bx0.toInt8.toInt32 bx1.toInt8.toInt32 bx2.toInt8.toInt32), .unset, .unset, .unset] [(.int bx2)])
              refine own_st (fun _ k => XT.bipushV X41.here hx rfl (-65 : Int32) (hb hby at_203) (by decide) k) ?_
              show own_Go p e below _ T41 (mkF m 205 #[iv p0, iv p1, iv p2, iv p3, iv p4, iv p5, iv 6, iv bx0, iv bx1, iv bx2, iv bx3, iv bx4, iv bx5, iv bx6, rv a1, iv (own_bom bx0.toInt8.toInt32 bx1.toInt8.toInt32 bx2.toInt8.toInt32), .unset, .unset, .unset] [(.int (-65)), (.int bx2)])
              by_cases cm2 : bx2 = (-65 : Int32)
              · refine own_st (fun _ k => XS.icmpNo X41.here hx rfl (hb hby at_205) rfl (XT.ii_ne_f cm2) k) ?_
                show own_Go p e below _ T41 (mkF m 208 #[iv p0, iv p1, iv p2, iv p3, iv p4, iv p5, iv 6, iv bx0, iv bx1, iv bx2, iv bx3, iv bx4, iv bx5, iv bx6, rv a1, iv (own_bom bx0.toInt8.toInt32 bx1.toInt8.toInt32 bx2.toInt8.toInt32), .unset, .unset, .unset] [])
                refine own_st (fun _ k => XT.iconstV X41.here hx rfl (1 : Int32) (hb hby at_208) (by decide) k) ?_
                show own_Go p e below _ T41 (mkF m 209 #[iv p0, iv p1, iv p2, iv p3, iv p4, iv p5, iv 6, iv bx0, iv bx1, iv bx2, iv bx3, iv bx4, iv bx5, iv bx6, rv a1, iv (own_bom bx0.toInt8.toInt32 bx1.toInt8.toInt32 bx2.toInt8.toInt32), .unset, .unset, .unset] [(.int 1)])
                refine own_st (fun _ k => XS.goto X41.here hx rfl (pc0 := 209) (pc' := 213) rfl (hb hby at_209) (by decide) (by decide) k) ?_
                show own_Go p e below _ T41 (mkF m 213 #[iv p0, iv p1, iv p2, iv p3, iv p4, iv p5, iv 6, iv bx0, iv bx1, iv bx2, iv bx3, iv bx4, iv bx5, iv bx6, rv a1, iv (own_bom bx0.toInt8.toInt32 bx1.toInt8.toInt32 bx2.toInt8.toInt32), .unset, .unset, .unset] [(.int 1)])
                refine own_st (fun _ k => XS.istore X41.here hx rfl (hb hby at_213) rfl (l' := #[iv p0, iv p1, iv p2, iv p3, iv p4, iv p5, iv 6, iv bx0, iv bx1, iv bx2, iv bx3, iv bx4, iv bx5, iv bx6, rv a1, iv (own_bom bx0.toInt8.toInt32 bx1.toInt8.toInt32 bx2.toInt8.toInt32), iv 1, .unset, .unset]) rfl k) ?_
                show own_Go p e below _ T41 (mkF m 215 #[iv p0, iv p1, iv p2, iv p3, iv p4, iv p5, iv 6, iv bx0, iv bx1, iv bx2, iv bx3, iv bx4, iv bx5, iv bx6, rv a1, iv (own_bom bx0.toInt8.toInt32 bx1.toInt8.toInt32 bx2.toInt8.toInt32), iv 1, .unset, .unset] [])
                refine own_st (fun _ k => XS.iload X41.here hx rfl (hb hby at_215) rfl k) ?_
                show own_Go p e below _ T41 (mkF m 217 #[iv p0, iv p1, iv p2, iv p3, iv p4, iv p5, iv 6, iv bx0, iv bx1, iv bx2, iv bx3, iv bx4, iv bx5, iv bx6, rv a1, iv (own_bom bx0.toInt8.toInt32 bx1.toInt8.toInt32 bx2.toInt8.toInt32), iv 1, .unset, .unset] [(.int 1)])
                refine own_st (fun _ k => XS.ifNo X41.here hx rfl (hb hby at_217) rfl (XT.i0_eq_f (by decide)) k) ?_
                show own_Go p e below _ T41 (mkF m 220 #[iv p0, iv p1, iv p2, iv p3, iv p4, iv p5, iv 6, iv bx0, iv bx1, iv bx2, iv bx3, iv bx4, iv bx5, iv bx6, rv a1, iv (own_bom bx0.toInt8.toInt32 bx1.toInt8.toInt32 bx2.toInt8.toInt32), iv 1, .unset, .unset] [])
                refine own_st (fun _ k => XT.iconstV X41.here hx rfl (3 : Int32) (hb hby at_220) (by decide) k) ?_
                show own_Go p e below _ T41 (mkF m 221 #[iv p0, iv p1, iv p2, iv p3, iv p4, iv p5, iv 6, iv bx0, iv bx1, iv bx2, iv bx3, iv bx4, iv bx5, iv bx6, rv a1, iv (own_bom bx0.toInt8.toInt32 bx1.toInt8.toInt32 bx2.toInt8.toInt32), iv 1, .unset, .unset] [(.int 3)])
                refine own_st (fun _ k => XS.goto X41.here hx rfl (pc0 := 221) (pc' := 225) rfl (hb hby at_221) (by decide) (by decide) k) ?_
                show own_Go p e below _ T41 (mkF m 225 #[iv p0, iv p1, iv p2, iv p3, iv p4, iv p5, iv 6, iv bx0, iv bx1, iv bx2, iv bx3, iv bx4, iv bx5, iv bx6, rv a1, iv (own_bom bx0.toInt8.toInt32 bx1.toInt8.toInt32 bx2.toInt8.toInt32), iv 1, .unset, .unset] [(.int 3)])
                refine own_st (fun _ k => XS.istore X41.here hx rfl (hb hby at_225) rfl (l' := #[iv p0, iv p1, iv p2, iv p3, iv p4, iv p5, iv 6, iv bx0, iv bx1, iv bx2, iv bx3, iv bx4, iv bx5, iv bx6, rv a1, iv (own_bom bx0.toInt8.toInt32 bx1.toInt8.toInt32 bx2.toInt8.toInt32), iv 1, iv 3, .unset]) rfl k) ?_
                show own_Go p e below _ T41 (mkF m 227 #[iv p0, iv p1, iv p2, iv p3, iv p4, iv p5, iv 6, iv bx0, iv bx1, iv bx2, iv bx3, iv bx4, iv bx5, iv bx6, rv a1, iv (own_bom bx0.toInt8.toInt32 bx1.toInt8.toInt32 bx2.toInt8.toInt32), iv 1, iv 3, .unset] [])
                exact KE _ _ (by simp [own_bom, ok0, ok1, ok2, cm0, cm1, cm2])
              · refine own_st (fun _ k => XS.icmpYes X41.here hx rfl (pc0 := 205) (pc' := 212) rfl (hb hby at_205) rfl (XT.ii_ne_t cm2) (by decide) (by decide) k) ?_
                show own_Go p e below _ T41 (mkF m 212 #[iv p0, iv p1, iv p2, iv p3, iv p4, iv p5, iv 6, iv bx0, iv bx1, iv bx2, iv bx3, iv bx4, iv bx5, iv bx6, rv a1, iv (own_bom bx0.toInt8.toInt32 bx1.toInt8.toInt32 bx2.toInt8.toInt32), .unset, .unset, .unset] [])
                refine own_st (fun _ k => XT.iconstV X41.here hx rfl (0 : Int32) (hb hby at_212) (by decide) k) ?_
                show own_Go p e below _ T41 (mkF m 213 #[iv p0, iv p1, iv p2, iv p3, iv p4, iv p5, iv 6, iv bx0, iv bx1, iv bx2, iv bx3, iv bx4, iv bx5, iv bx6, rv a1, iv (own_bom bx0.toInt8.toInt32 bx1.toInt8.toInt32 bx2.toInt8.toInt32), .unset, .unset, .unset] [(.int 0)])
                refine own_st (fun _ k => XS.istore X41.here hx rfl (hb hby at_213) rfl (l' := #[iv p0, iv p1, iv p2, iv p3, iv p4, iv p5, iv 6, iv bx0, iv bx1, iv bx2, iv bx3, iv bx4, iv bx5, iv bx6, rv a1, iv (own_bom bx0.toInt8.toInt32 bx1.toInt8.toInt32 bx2.toInt8.toInt32), iv 0, .unset, .unset]) rfl k) ?_
                show own_Go p e below _ T41 (mkF m 215 #[iv p0, iv p1, iv p2, iv p3, iv p4, iv p5, iv 6, iv bx0, iv bx1, iv bx2, iv bx3, iv bx4, iv bx5, iv bx6, rv a1, iv (own_bom bx0.toInt8.toInt32 bx1.toInt8.toInt32 bx2.toInt8.toInt32), iv 0, .unset, .unset] [])
                refine own_st (fun _ k => XS.iload X41.here hx rfl (hb hby at_215) rfl k) ?_
                show own_Go p e below _ T41 (mkF m 217 #[iv p0, iv p1, iv p2, iv p3, iv p4, iv p5, iv 6, iv bx0, iv bx1, iv bx2, iv bx3, iv bx4, iv bx5, iv bx6, rv a1, iv (own_bom bx0.toInt8.toInt32 bx1.toInt8.toInt32 bx2.toInt8.toInt32), iv 0, .unset, .unset] [(.int 0)])
                refine own_st (fun _ k => XS.ifYes X41.here hx rfl (pc0 := 217) (pc' := 224) rfl (hb hby at_217) rfl (XT.i0_eq_t (by decide)) (by decide) (by decide) k) ?_
                show own_Go p e below _ T41 (mkF m 224 #[iv p0, iv p1, iv p2, iv p3, iv p4, iv p5, iv 6, iv bx0, iv bx1, iv bx2, iv bx3, iv bx4, iv bx5, iv bx6, rv a1, iv (own_bom bx0.toInt8.toInt32 bx1.toInt8.toInt32 bx2.toInt8.toInt32), iv 0, .unset, .unset] [])
                refine own_st (fun _ k => XT.iconstV X41.here hx rfl (0 : Int32) (hb hby at_224) (by decide) k) ?_
                show own_Go p e below _ T41 (mkF m 225 #[iv p0, iv p1, iv p2, iv p3, iv p4, iv p5, iv 6, iv bx0, iv bx1, iv bx2, iv bx3, iv bx4, iv bx5, iv bx6, rv a1, iv (own_bom bx0.toInt8.toInt32 bx1.toInt8.toInt32 bx2.toInt8.toInt32), iv 0, .unset, .unset] [(.int 0)])
                refine own_st (fun _ k => XS.istore X41.here hx rfl (hb hby at_225) rfl (l' := #[iv p0, iv p1, iv p2, iv p3, iv p4, iv p5, iv 6, iv bx0, iv bx1, iv bx2, iv bx3, iv bx4, iv bx5, iv bx6, rv a1, iv (own_bom bx0.toInt8.toInt32 bx1.toInt8.toInt32 bx2.toInt8.toInt32), iv 0, iv 0, .unset]) rfl k) ?_
                show own_Go p e below _ T41 (mkF m 227 #[iv p0, iv p1, iv p2, iv p3, iv p4, iv p5, iv 6, iv bx0, iv bx1, iv bx2, iv bx3, iv bx4, iv bx5, iv bx6, rv a1, iv (own_bom bx0.toInt8.toInt32 bx1.toInt8.toInt32 bx2.toInt8.toInt32), iv 0, iv 0, .unset] [])
                exact KE _ _ (by simp [own_bom, ok0, ok1, ok2, cm0, cm1, cm2])
            · refine own_st (fun _ k => XS.icmpYes X41.here hx rfl (pc0 := 198) (pc' := 212) rfl (hb hby at_198) rfl (XT.ii_ne_t cm1) (by decide) (by decide) k) ?_
              show own_Go p e below _ T41 (mkF m 212 #[iv p0, iv p1, iv p2, iv p3, iv p4, iv p5, iv 6, iv bx0, iv bx1, iv bx2, iv bx3, iv bx4, iv bx5, iv bx6, rv a1, iv (own_bom bx0.toInt8.toInt32 bx1.toInt8.toInt32 bx2.toInt8.toInt32), .unset, .unset, .unset] [])
              refine own_st (fun _ k => XT.iconstV X41.here hx rfl (0 : Int32) (hb hby at_212) (by decide) k) ?_
              show own_Go p e below _ T41 (mkF m 213 #[iv p0, iv p1, iv p2, iv p3, iv p4, iv p5, iv 6, iv bx0, iv bx1, iv bx2, iv bx3, iv bx4, iv bx5, iv bx6, rv a1, iv (own_bom bx0.toInt8.toInt32 bx1.toInt8.toInt32 bx2.toInt8.toInt32), .unset, .unset, .unset] [(.int 0)])
              refine own_st (fun _ k => XS.istore X41.here hx rfl (hb hby at_213) rfl (l' := #[iv p0, iv p1, iv p2, iv p3, iv p4, iv p5, iv 6, iv bx0, iv bx1, iv bx2, iv bx3, iv bx4, iv bx5, iv bx6, rv a1, iv (own_bom bx0.toInt8.toInt32 bx1.toInt8.toInt32 bx2.toInt8.toInt32), iv 0, .unset, .unset]) rfl k) ?_
              show own_Go p e below _ T41 (mkF m 215 #[iv p0, iv p1, iv p2, iv p3, iv p4, iv p5, iv 6, iv bx0, iv bx1, iv bx2, iv bx3, iv bx4, iv bx5, iv bx6, rv a1, iv (own_bom bx0.toInt8.toInt32 bx1.toInt8.toInt32 bx2.toInt8.toInt32), iv 0, .unset, .unset] [])
              refine own_st (fun _ k => XS.iload X41.here hx rfl (hb hby at_215) rfl k) ?_
              show own_Go p e below _ T41 (mkF m 217 #[iv p0, iv p1, iv p2, iv p3, iv p4, iv p5, iv 6, iv bx0, iv bx1, iv bx2, iv bx3, iv bx4, iv bx5, iv bx6, rv a1, iv (own_bom bx0.toInt8.toInt32 bx1.toInt8.toInt32 bx2.toInt8.toInt32), iv 0, .unset, .unset] [(.int 0)])
              refine own_st (fun _ k => XS.ifYes X41.here hx rfl (pc0 := 217) (pc' := 224) rfl (hb hby at_217) rfl (XT.i0_eq_t (by decide)) (by decide) (by decide) k) ?_
              show own_Go p e below _ T41 (mkF m 224 #[iv p0, iv p1, iv p2, iv p3, iv p4, iv p5, iv 6, iv bx0, iv bx1, iv bx2, iv bx3, iv bx4, iv bx5, iv bx6, rv a1, iv (own_bom bx0.toInt8.toInt32 bx1.toInt8.toInt32 bx2.toInt8.toInt32), iv 0, .unset, .unset] [])
              refine own_st (fun _ k => XT.iconstV X41.here hx rfl (0 : Int32) (hb hby at_224) (by decide) k) ?_
              show own_Go p e below _ T41 (mkF m 225 #[iv p0, iv p1, iv p2, iv p3, iv p4, iv p5, iv 6, iv bx0, iv bx1, iv bx2, iv bx3, iv bx4, iv bx5, iv bx6, rv a1, iv (own_bom bx0.toInt8.toInt32 bx1.toInt8.toInt32 bx2.toInt8.toInt32), iv 0, .unset, .unset] [(.int 0)])
              refine own_st (fun _ k => XS.istore X41.here hx rfl (hb hby at_225) rfl (l' := #[iv p0, iv p1, iv p2, iv p3, iv p4, iv p5, iv 6, iv bx0, iv bx1, iv bx2, iv bx3, iv bx4, iv bx5, iv bx6, rv a1, iv (own_bom bx0.toInt8.toInt32 bx1.toInt8.toInt32 bx2.toInt8.toInt32), iv 0, iv 0, .unset]) rfl k) ?_
              show own_Go p e below _ T41 (mkF m 227 #[iv p0, iv p1, iv p2, iv p3, iv p4, iv p5, iv 6, iv bx0, iv bx1, iv bx2, iv bx3, iv bx4, iv bx5, iv bx6, rv a1, iv (own_bom bx0.toInt8.toInt32 bx1.toInt8.toInt32 bx2.toInt8.toInt32), iv 0, iv 0, .unset] [])
              exact KE _ _ (by simp [own_bom, ok0, ok1, ok2, cm0, cm1])
          · refine own_st (fun _ k => XS.icmpYes X41.here hx rfl (pc0 := 191) (pc' := 212) rfl (hb hby at_191) rfl (XT.ii_ne_t cm0) (by decide) (by decide) k) ?_
            show own_Go p e below _ T41 (mkF m 212 #[iv p0, iv p1, iv p2, iv p3, iv p4, iv p5, iv 6, iv bx0, iv bx1, iv bx2, iv bx3, iv bx4, iv bx5, iv bx6, rv a1, iv (own_bom bx0.toInt8.toInt32 bx1.toInt8.toInt32 bx2.toInt8.toInt32), .unset, .unset, .unset] [])
            refine own_st (fun _ k => XT.iconstV X41.here hx rfl (0 : Int32) (hb hby at_212) (by decide) k) ?_
            show own_Go p e below _ T41 (mkF m 213 #[iv p0, iv p1, iv p2, iv p3, iv p4, iv p5, iv 6, iv bx0, iv bx1, iv bx2, iv bx3, iv bx4, iv bx5, iv bx6, rv a1, iv (own_bom bx0.toInt8.toInt32 bx1.toInt8.toInt32 bx2.toInt8.toInt32), .unset, .unset, .unset] [(.int 0)])
            refine own_st (fun _ k => XS.istore X41.here hx rfl (hb hby at_213) rfl (l' := #[iv p0, iv p1, iv p2, iv p3, iv p4, iv p5, iv 6, iv bx0, iv bx1, iv bx2, iv bx3, iv bx4, iv bx5, iv bx6, rv a1, iv (own_bom bx0.toInt8.toInt32 bx1.toInt8.toInt32 bx2.toInt8.toInt32), iv 0, .unset, .unset]) rfl k) ?_
            show own_Go p e below _ T41 (mkF m 215 #[iv p0, iv p1, iv p2, iv p3, iv p4, iv p5, iv 6, iv bx0, iv bx1, iv bx2, iv bx3, iv bx4, iv bx5, iv bx6, rv a1, iv (own_bom bx0.toInt8.toInt32 bx1.toInt8.toInt32 bx2.toInt8.toInt32), iv 0, .unset, .unset] [])
            refine own_st (fun _ k => XS.iload X41.here hx rfl (hb hby at_215) rfl k) ?_
            show own_Go p e below _ T41 (mkF m 217 #[iv p0, iv p1, iv p2, iv p3, iv p4, iv p5, iv 6, iv bx0, iv bx1, iv bx2, iv bx3, iv bx4, iv bx5, iv bx6, rv a1, iv (own_bom bx0.toInt8.toInt32 bx1.toInt8.toInt32 bx2.toInt8.toInt32), iv 0, .unset, .unset] [(.int 0)])
            refine own_st (fun _ k => XS.ifYes X41.here hx rfl (pc0 := 217) (pc' := 224) rfl (hb hby at_217) rfl (XT.i0_eq_t (by decide)) (by decide) (by decide) k) ?_
            show own_Go p e below _ T41 (mkF m 224 #[iv p0, iv p1, iv p2, iv p3, iv p4, iv p5, iv 6, iv bx0, iv bx1, iv bx2, iv bx3, iv bx4, iv bx5, iv bx6, rv a1, iv (own_bom bx0.toInt8.toInt32 bx1.toInt8.toInt32 bx2.toInt8.toInt32), iv 0, .unset, .unset] [])
            refine own_st (fun _ k => XT.iconstV X41.here hx rfl (0 : Int32) (hb hby at_224) (by decide) k) ?_
            show own_Go p e below _ T41 (mkF m 225 #[iv p0, iv p1, iv p2, iv p3, iv p4, iv p5, iv 6, iv bx0, iv bx1, iv bx2, iv bx3, iv bx4, iv bx5, iv bx6, rv a1, iv (own_bom bx0.toInt8.toInt32 bx1.toInt8.toInt32 bx2.toInt8.toInt32), iv 0, .unset, .unset] [(.int 0)])
            refine own_st (fun _ k => XS.istore X41.here hx rfl (hb hby at_225) rfl (l' := #[iv p0, iv p1, iv p2, iv p3, iv p4, iv p5, iv 6, iv bx0, iv bx1, iv bx2, iv bx3, iv bx4, iv bx5, iv bx6, rv a1, iv (own_bom bx0.toInt8.toInt32 bx1.toInt8.toInt32 bx2.toInt8.toInt32), iv 0, iv 0, .unset]) rfl k) ?_
            show own_Go p e below _ T41 (mkF m 227 #[iv p0, iv p1, iv p2, iv p3, iv p4, iv p5, iv 6, iv bx0, iv bx1, iv bx2, iv bx3, iv bx4, iv bx5, iv bx6, rv a1, iv (own_bom bx0.toInt8.toInt32 bx1.toInt8.toInt32 bx2.toInt8.toInt32), iv 0, iv 0, .unset] [])
            exact KE _ _ (by simp [own_bom, ok0, ok1, ok2, cm0])
        · show own_Go p e below _ s₁ (mkF m 85 #[iv p0, iv p1, iv p2, iv p3, iv p4, iv p5, iv 7, iv bx0, iv bx1, iv bx2, iv bx3, iv bx4, iv bx5, iv bx6, .unset, .unset, .unset, .unset, .unset] [(.int 7)])
          obtain ⟨T43, h43, k_a1, X43, e43, x43, A43, st43⟩ := newP X0 hx hZ (hw _ (List.mem_of_getElem? (i := 0) rfl)) e0 (g := (mkF m 85 #[iv p0, iv p1, iv p2, iv p3, iv p4, iv p5, iv 7, iv bx0, iv bx1, iv bx2, iv bx3, iv bx4, iv bx5, iv bx6, .unset, .unset, .unset, .unset, .unset] [(.int 7)])) rfl (hb hby at_85) rfl (by decide) (cap := 7) (by decide) (by decide) (by decide) (by decide)
          obtain ⟨a1, g43⟩ : ∃ z, z = h0.size := ⟨_, rfl⟩
          rw [← g43] at A43 st43
          have g_a1 : n0 ≤ a1 := g43 ▸ Z0
          have O43 := O0.ext x43
          have Z43 : n0 ≤ h43.size := Nat.le_trans Z0 x43.1
          clear O0 Z0
          have V43_a1 : Arv Z h43 a1 k_a1 .byte (7 : Int32) [(.int 0), (.int 0), (.int 0), (.int 0), (.int 0), (.int 0), (.int 0)] (.int 0) := (Arv.new A43 (by decide)).pad (pad_rep [] (.int 0) 7)
          clear X0 e0
          refine own_st st43 ?_
          clear st43
          show own_Go p e below _ T43 (mkF m 87 #[iv p0, iv p1, iv p2, iv p3, iv p4, iv p5, iv 7, iv bx0, iv bx1, iv bx2, iv bx3, iv bx4, iv bx5, iv bx6, .unset, .unset, .unset, .unset, .unset] [(.ref a1)])
          refine own_st (fun _ k => XS.astore X43.here hx rfl (hb hby at_87) rfl rfl (l' := #[iv p0, iv p1, iv p2, iv p3, iv p4, iv p5, iv 7, iv bx0, iv bx1, iv bx2, iv bx3, iv bx4, iv bx5, iv bx6, rv a1, .unset, .unset, .unset, .unset]) rfl k) ?_
          show own_Go p e below _ T43 (mkF m 89 #[iv p0, iv p1, iv p2, iv p3, iv p4, iv p5, iv 7, iv bx0, iv bx1, iv bx2, iv bx3, iv bx4, iv bx5, iv bx6, rv a1, .unset, .unset, .unset, .unset] [])
          refine own_st (fun _ k => XS.iload X43.here hx rfl (hb hby at_89) rfl k) ?_
          show own_Go p e below _ T43 (mkF m 91 #[iv p0, iv p1, iv p2, iv p3, iv p4, iv p5, iv 7, iv bx0, iv bx1, iv bx2, iv bx3, iv bx4, iv bx5, iv bx6, rv a1, .unset, .unset, .unset, .unset] [(.int 7)])
          refine own_st (fun _ k => XS.ifNo X43.here hx rfl (hb hby at_91) rfl (XT.i0_le_f (by decide)) k) ?_
          show own_Go p e below _ T43 (mkF m 94 #[iv p0, iv p1, iv p2, iv p3, iv p4, iv p5, iv 7, iv bx0, iv bx1, iv bx2, iv bx3, iv bx4, iv bx5, iv bx6, rv a1, .unset, .unset, .unset, .unset] [])
          refine own_st (fun _ k => XS.aload X43.here hx rfl (hb hby at_94) rfl rfl k) ?_
          show own_Go p e below _ T43 (mkF m 96 #[iv p0, iv p1, iv p2, iv p3, iv p4, iv p5, iv 7, iv bx0, iv bx1, iv bx2, iv bx3, iv bx4, iv bx5, iv bx6, rv a1, .unset, .unset, .unset, .unset] [(.ref a1)])
          refine own_st (fun _ k => XT.iconstV X43.here hx rfl (0 : Int32) (hb hby at_96) (by decide) k) ?_
          show own_Go p e below _ T43 (mkF m 97 #[iv p0, iv p1, iv p2, iv p3, iv p4, iv p5, iv 7, iv bx0, iv bx1, iv bx2, iv bx3, iv bx4, iv bx5, iv bx6, rv a1, .unset, .unset, .unset, .unset] [(.int 0), (.ref a1)])
          refine own_st (fun _ k => XS.iload X43.here hx rfl (hb hby at_97) rfl k) ?_
          show own_Go p e below _ T43 (mkF m 99 #[iv p0, iv p1, iv p2, iv p3, iv p4, iv p5, iv 7, iv bx0, iv bx1, iv bx2, iv bx3, iv bx4, iv bx5, iv bx6, rv a1, .unset, .unset, .unset, .unset] [(.int bx0), (.int 0), (.ref a1)])
          obtain ⟨T44, h44, X44, e44, W44, V44, st44⟩ := own_stB X43 hx hZ e43 V43_a1 (j := (0 : Int32)) ⟨by decide, by decide⟩ 0 rfl (Nat.le_of_ble_eq_true rfl) (g := (mkF m 99 #[iv p0, iv p1, iv p2, iv p3, iv p4, iv p5, iv 7, iv bx0, iv bx1, iv bx2, iv bx3, iv bx4, iv bx5, iv bx6, rv a1, .unset, .unset, .unset, .unset] [(.int bx0), (.int 0), (.ref a1)])) rfl rfl (hb hby at_99)
          have V44_a1 : Arv Z h44 a1 k_a1 .byte (7 : Int32) [(.int bx0.toInt8.toInt32), (.int 0), (.int 0), (.int 0), (.int 0), (.int 0), (.int 0)] (.int 0) := V44
          have O44 := O43.wr W44 g_a1
          have Z44 : n0 ≤ h44.size := by rw [W44.size]; exact Z43
          clear O43 Z43 V43_a1 W44
          have N44 := Fr.snoc X44 N0 g_a1
          clear X43 e43
          refine own_st st44 ?_
          clear st44
          show own_Go p e below _ T44 (mkF m 100 #[iv p0, iv p1, iv p2, iv p3, iv p4, iv p5, iv 7, iv bx0, iv bx1, iv bx2, iv bx3, iv bx4, iv bx5, iv bx6, rv a1, .unset, .unset, .unset, .unset] [])
          refine own_st (fun _ k => XS.iload X44.here hx rfl (hb hby at_100) rfl k) ?_
          show own_Go p e below _ T44 (mkF m 102 #[iv p0, iv p1, iv p2, iv p3, iv p4, iv p5, iv 7, iv bx0, iv bx1, iv bx2, iv bx3, iv bx4, iv bx5, iv bx6, rv a1, .unset, .unset, .unset, .unset] [(.int 7)])
          refine own_st (fun _ k => XT.iconstV X44.here hx rfl (1 : Int32) (hb hby at_102) (by decide) k) ?_
          show own_Go p e below _ T44 (mkF m 103 #[iv p0, iv p1, iv p2, iv p3, iv p4, iv p5, iv 7, iv bx0, iv bx1, iv bx2, iv bx3, iv bx4, iv bx5, iv bx6, rv a1, .unset, .unset, .unset, .unset] [(.int 1), (.int 7)])
          refine own_st (fun _ k => XS.icmpNo X44.here hx rfl (hb hby at_103) rfl (XT.ii_le_f (by decide)) k) ?_
          show own_Go p e below _ T44 (mkF m 106 #[iv p0, iv p1, iv p2, iv p3, iv p4, iv p5, iv 7, iv bx0, iv bx1, iv bx2, iv bx3, iv bx4, iv bx5, iv bx6, rv a1, .unset, .unset, .unset, .unset] [])
          refine own_st (fun _ k => XS.aload X44.here hx rfl (hb hby at_106) rfl rfl k) ?_
          show own_Go p e below _ T44 (mkF m 108 #[iv p0, iv p1, iv p2, iv p3, iv p4, iv p5, iv 7, iv bx0, iv bx1, iv bx2, iv bx3, iv bx4, iv bx5, iv bx6, rv a1, .unset, .unset, .unset, .unset] [(.ref a1)])
          refine own_st (fun _ k => XT.iconstV X44.here hx rfl (1 : Int32) (hb hby at_108) (by decide) k) ?_
          show own_Go p e below _ T44 (mkF m 109 #[iv p0, iv p1, iv p2, iv p3, iv p4, iv p5, iv 7, iv bx0, iv bx1, iv bx2, iv bx3, iv bx4, iv bx5, iv bx6, rv a1, .unset, .unset, .unset, .unset] [(.int 1), (.ref a1)])
          refine own_st (fun _ k => XS.iload X44.here hx rfl (hb hby at_109) rfl k) ?_
          show own_Go p e below _ T44 (mkF m 111 #[iv p0, iv p1, iv p2, iv p3, iv p4, iv p5, iv 7, iv bx0, iv bx1, iv bx2, iv bx3, iv bx4, iv bx5, iv bx6, rv a1, .unset, .unset, .unset, .unset] [(.int bx1), (.int 1), (.ref a1)])
          obtain ⟨T45, h45, X45, e45, W45, V45, st45⟩ := own_stB X44 hx hZ e44 V44_a1 (j := (1 : Int32)) ⟨by decide, by decide⟩ 1 rfl (Nat.le_of_ble_eq_true rfl) (g := (mkF m 111 #[iv p0, iv p1, iv p2, iv p3, iv p4, iv p5, iv 7, iv bx0, iv bx1, iv bx2, iv bx3, iv bx4, iv bx5, iv bx6, rv a1, .unset, .unset, .unset, .unset] [(.int bx1), (.int 1), (.ref a1)])) rfl rfl (hb hby at_111)
          have V45_a1 : Arv Z h45 a1 k_a1 .byte (7 : Int32) [(.int bx0.toInt8.toInt32), (.int bx1.toInt8.toInt32), (.int 0), (.int 0), (.int 0), (.int 0), (.int 0)] (.int 0) := V45
          have O45 := O44.wr W45 g_a1
          have Z45 : n0 ≤ h45.size := by rw [W45.size]; exact Z44
          clear O44 Z44 V44_a1 W45
          have N45 := Fr.snoc X45 N44 g_a1
          clear X44 e44
          refine own_st st45 ?_
          clear st45
          show own_Go p e below _ T45 (mkF m 112 #[iv p0, iv p1, iv p2, iv p3, iv p4, iv p5, iv 7, iv bx0, iv bx1, iv bx2, iv bx3, iv bx4, iv bx5, iv bx6, rv a1, .unset, .unset, .unset, .unset] [])
          refine own_st (fun _ k => XS.iload X45.here hx rfl (hb hby at_112) rfl k) ?_
          show own_Go p e below _ T45 (mkF m 114 #[iv p0, iv p1, iv p2, iv p3, iv p4, iv p5, iv 7, iv bx0, iv bx1, iv bx2, iv bx3, iv bx4, iv bx5, iv bx6, rv a1, .unset, .unset, .unset, .unset] [(.int 7)])
          refine own_st (fun _ k => XT.iconstV X45.here hx rfl (2 : Int32) (hb hby at_114) (by decide) k) ?_
          show own_Go p e below _ T45 (mkF m 115 #[iv p0, iv p1, iv p2, iv p3, iv p4, iv p5, iv 7, iv bx0, iv bx1, iv bx2, iv bx3, iv bx4, iv bx5, iv bx6, rv a1, .unset, .unset, .unset, .unset] [(.int 2), (.int 7)])
          refine own_st (fun _ k => XS.icmpNo X45.here hx rfl (hb hby at_115) rfl (XT.ii_le_f (by decide)) k) ?_
          show own_Go p e below _ T45 (mkF m 118 #[iv p0, iv p1, iv p2, iv p3, iv p4, iv p5, iv 7, iv bx0, iv bx1, iv bx2, iv bx3, iv bx4, iv bx5, iv bx6, rv a1, .unset, .unset, .unset, .unset] [])
          refine own_st (fun _ k => XS.aload X45.here hx rfl (hb hby at_118) rfl rfl k) ?_
          show own_Go p e below _ T45 (mkF m 120 #[iv p0, iv p1, iv p2, iv p3, iv p4, iv p5, iv 7, iv bx0, iv bx1, iv bx2, iv bx3, iv bx4, iv bx5, iv bx6, rv a1, .unset, .unset, .unset, .unset] [(.ref a1)])
          refine own_st (fun _ k => XT.iconstV X45.here hx rfl (2 : Int32) (hb hby at_120) (by decide) k) ?_
          show own_Go p e below _ T45 (mkF m 121 #[iv p0, iv p1, iv p2, iv p3, iv p4, iv p5, iv 7, iv bx0, iv bx1, iv bx2, iv bx3, iv bx4, iv bx5, iv bx6, rv a1, .unset, .unset, .unset, .unset] [(.int 2), (.ref a1)])
          refine own_st (fun _ k => XS.iload X45.here hx rfl (hb hby at_121) rfl k) ?_
          show own_Go p e below _ T45 (mkF m 123 #[iv p0, iv p1, iv p2, iv p3, iv p4, iv p5, iv 7, iv bx0, iv bx1, iv bx2, iv bx3, iv bx4, iv bx5, iv bx6, rv a1, .unset, .unset, .unset, .unset] [(.int bx2), (.int 2), (.ref a1)])
          obtain ⟨T46, h46, X46, e46, W46, V46, st46⟩ := own_stB X45 hx hZ e45 V45_a1 (j := (2 : Int32)) ⟨by decide, by decide⟩ 2 rfl (Nat.le_of_ble_eq_true rfl) (g := (mkF m 123 #[iv p0, iv p1, iv p2, iv p3, iv p4, iv p5, iv 7, iv bx0, iv bx1, iv bx2, iv bx3, iv bx4, iv bx5, iv bx6, rv a1, .unset, .unset, .unset, .unset] [(.int bx2), (.int 2), (.ref a1)])) rfl rfl (hb hby at_123)
          have V46_a1 : Arv Z h46 a1 k_a1 .byte (7 : Int32) [(.int bx0.toInt8.toInt32), (.int bx1.toInt8.toInt32), (.int bx2.toInt8.toInt32), (.int 0), (.int 0), (.int 0), (.int 0)] (.int 0) := V46
          have O46 := O45.wr W46 g_a1
          have Z46 : n0 ≤ h46.size := by rw [W46.size]; exact Z45
          clear O45 Z45 V45_a1 W46
          have N46 := Fr.snoc X46 N45 g_a1
          clear X45 e45
          refine own_st st46 ?_
          clear st46
          show own_Go p e below _ T46 (mkF m 124 #[iv p0, iv p1, iv p2, iv p3, iv p4, iv p5, iv 7, iv bx0, iv bx1, iv bx2, iv bx3, iv bx4, iv bx5, iv bx6, rv a1, .unset, .unset, .unset, .unset] [])
          refine own_st (fun _ k => XS.iload X46.here hx rfl (hb hby at_124) rfl k) ?_
          show own_Go p e below _ T46 (mkF m 126 #[iv p0, iv p1, iv p2, iv p3, iv p4, iv p5, iv 7, iv bx0, iv bx1, iv bx2, iv bx3, iv bx4, iv bx5, iv bx6, rv a1, .unset, .unset, .unset, .unset] [(.int 7)])
          refine own_st (fun _ k => XT.iconstV X46.here hx rfl (3 : Int32) (hb hby at_126) (by decide) k) ?_
          show own_Go p e below _ T46 (mkF m 127 #[iv p0, iv p1, iv p2, iv p3, iv p4, iv p5, iv 7, iv bx0, iv bx1, iv bx2, iv bx3, iv bx4, iv bx5, iv bx6, rv a1, .unset, .unset, .unset, .unset] [(.int 3), (.int 7)])
          refine own_st (fun _ k => XS.icmpNo X46.here hx rfl (hb hby at_127) rfl (XT.ii_le_f (by decide)) k) ?_
          show own_Go p e below _ T46 (mkF m 130 #[iv p0, iv p1, iv p2, iv p3, iv p4, iv p5, iv 7, iv bx0, iv bx1, iv bx2, iv bx3, iv bx4, iv bx5, iv bx6, rv a1, .unset, .unset, .unset, .unset] [])
          refine own_st (fun _ k => XS.aload X46.here hx rfl (hb hby at_130) rfl rfl k) ?_
          show own_Go p e below _ T46 (mkF m 132 #[iv p0, iv p1, iv p2, iv p3, iv p4, iv p5, iv 7, iv bx0, iv bx1, iv bx2, iv bx3, iv bx4, iv bx5, iv bx6, rv a1, .unset, .unset, .unset, .unset] [(.ref a1)])
          refine own_st (fun _ k => XT.iconstV X46.here hx rfl (3 : Int32) (hb hby at_132) (by decide) k) ?_
          show own_Go p e below _ T46 (mkF m 133 #[iv p0, iv p1, iv p2, iv p3, iv p4, iv p5, iv 7, iv bx0, iv bx1, iv bx2, iv bx3, iv bx4, iv bx5, iv bx6, rv a1, .unset, .unset, .unset, .unset] [(.int 3), (.ref a1)])
          refine own_st (fun _ k => XS.iload X46.here hx rfl (hb hby at_133) rfl k) ?_
          show own_Go p e below _ T46 (mkF m 135 #[iv p0, iv p1, iv p2, iv p3, iv p4, iv p5, iv 7, iv bx0, iv bx1, iv bx2, iv bx3, iv bx4, iv bx5, iv bx6, rv a1, .unset, .unset, .unset, .unset] [(.int bx3), (.int 3), (.ref a1)])
          obtain ⟨T47, h47, X47, e47, W47, V47, st47⟩ := own_stB X46 hx hZ e46 V46_a1 (j := (3 : Int32)) ⟨by decide, by decide⟩ 3 rfl (Nat.le_of_ble_eq_true rfl) (g := (mkF m 135 #[iv p0, iv p1, iv p2, iv p3, iv p4, iv p5, iv 7, iv bx0, iv bx1, iv bx2, iv bx3, iv bx4, iv bx5, iv bx6, rv a1, .unset, .unset, .unset, .unset] [(.int bx3), (.int 3), (.ref a1)])) rfl rfl (hb hby at_135)
          have V47_a1 : Arv Z h47 a1 k_a1 .byte (7 : Int32) [(.int bx0.toInt8.toInt32), (.int bx1.toInt8.toInt32), (.int bx2.toInt8.toInt32), (.int bx3.toInt8.toInt32), (.int 0), (.int 0), (.int 0)] (.int 0) := V47
          have O47 := O46.wr W47 g_a1
          have Z47 : n0 ≤ h47.size := by rw [W47.size]; exact Z46
          clear O46 Z46 V46_a1 W47
          have N47 := Fr.snoc X47 N46 g_a1
          clear X46 e46
          refine own_st st47 ?_
          clear st47
          show own_Go p e below _ T47 (mkF m 136 #[iv p0, iv p1, iv p2, iv p3, iv p4, iv p5, iv 7, iv bx0, iv bx1, iv bx2, iv bx3, iv bx4, iv bx5, iv bx6, rv a1, .unset, .unset, .unset, .unset] [])
          refine own_st (fun _ k => XS.iload X47.here hx rfl (hb hby at_136) rfl k) ?_
          show own_Go p e below _ T47 (mkF m 138 #[iv p0, iv p1, iv p2, iv p3, iv p4, iv p5, iv 7, iv bx0, iv bx1, iv bx2, iv bx3, iv bx4, iv bx5, iv bx6, rv a1, .unset, .unset, .unset, .unset] [(.int 7)])
          refine own_st (fun _ k => XT.iconstV X47.here hx rfl (4 : Int32) (hb hby at_138) (by decide) k) ?_
          show own_Go p e below _ T47 (mkF m 139 #[iv p0, iv p1, iv p2, iv p3, iv p4, iv p5, iv 7, iv bx0, iv bx1, iv bx2, iv bx3, iv bx4, iv bx5, iv bx6, rv a1, .unset, .unset, .unset, .unset] [(.int 4), (.int 7)])
          refine own_st (fun _ k => XS.icmpNo X47.here hx rfl (hb hby at_139) rfl (XT.ii_le_f (by decide)) k) ?_
          show own_Go p e below _ T47 (mkF m 142 #[iv p0, iv p1, iv p2, iv p3, iv p4, iv p5, iv 7, iv bx0, iv bx1, iv bx2, iv bx3, iv bx4, iv bx5, iv bx6, rv a1, .unset, .unset, .unset, .unset] [])
          refine own_st (fun _ k => XS.aload X47.here hx rfl (hb hby at_142) rfl rfl k) ?_
          show own_Go p e below _ T47 (mkF m 144 #[iv p0, iv p1, iv p2, iv p3, iv p4, iv p5, iv 7, iv bx0, iv bx1, iv bx2, iv bx3, iv bx4, iv bx5, iv bx6, rv a1, .unset, .unset, .unset, .unset] [(.ref a1)])
          refine own_st (fun _ k => XT.iconstV X47.here hx rfl (4 : Int32) (hb hby at_144) (by decide) k) ?_
          show own_Go p e below _ T47 (mkF m 145 #[iv p0, iv p1, iv p2, iv p3, iv p4, iv p5, iv 7, iv bx0, iv bx1, iv bx2, iv bx3, iv bx4, iv bx5, iv bx6, rv a1, .unset, .unset, .unset, .unset] [(.int 4), (.ref a1)])
          refine own_st (fun _ k => XS.iload X47.here hx rfl (hb hby at_145) rfl k) ?_
          show own_Go p e below _ T47 (mkF m 147 #[iv p0, iv p1, iv p2, iv p3, iv p4, iv p5, iv 7, iv bx0, iv bx1, iv bx2, iv bx3, iv bx4, iv bx5, iv bx6, rv a1, .unset, .unset, .unset, .unset] [(.int bx4), (.int 4), (.ref a1)])
          obtain ⟨T48, h48, X48, e48, W48, V48, st48⟩ := own_stB X47 hx hZ e47 V47_a1 (j := (4 : Int32)) ⟨by decide, by decide⟩ 4 rfl (Nat.le_of_ble_eq_true rfl) (g := (mkF m 147 #[iv p0, iv p1, iv p2, iv p3, iv p4, iv p5, iv 7, iv bx0, iv bx1, iv bx2, iv bx3, iv bx4, iv bx5, iv bx6, rv a1, .unset, .unset, .unset, .unset] [(.int bx4), (.int 4), (.ref a1)])) rfl rfl (hb hby at_147)
          have V48_a1 : Arv Z h48 a1 k_a1 .byte (7 : Int32) [(.int bx0.toInt8.toInt32), (.int bx1.toInt8.toInt32), (.int bx2.toInt8.toInt32), (.int bx3.toInt8.toInt32), (.int bx4.toInt8.toInt32), (.int 0), (.int 0)] (.int 0) := V48
          have O48 := O47.wr W48 g_a1
          have Z48 : n0 ≤ h48.size := by rw [W48.size]; exact Z47
          clear O47 Z47 V47_a1 W48
          have N48 := Fr.snoc X48 N47 g_a1
          clear X47 e47
          refine own_st st48 ?_
          clear st48
          show own_Go p e below _ T48 (mkF m 148 #[iv p0, iv p1, iv p2, iv p3, iv p4, iv p5, iv 7, iv bx0, iv bx1, iv bx2, iv bx3, iv bx4, iv bx5, iv bx6, rv a1, .unset, .unset, .unset, .unset] [])
          refine own_st (fun _ k => XS.iload X48.here hx rfl (hb hby at_148) rfl k) ?_
          show own_Go p e below _ T48 (mkF m 150 #[iv p0, iv p1, iv p2, iv p3, iv p4, iv p5, iv 7, iv bx0, iv bx1, iv bx2, iv bx3, iv bx4, iv bx5, iv bx6, rv a1, .unset, .unset, .unset, .unset] [(.int 7)])
          refine own_st (fun _ k => XT.iconstV X48.here hx rfl (5 : Int32) (hb hby at_150) (by decide) k) ?_
          show own_Go p e below _ T48 (mkF m 151 #[iv p0, iv p1, iv p2, iv p3, iv p4, iv p5, iv 7, iv bx0, iv bx1, iv bx2, iv bx3, iv bx4, iv bx5, iv bx6, rv a1, .unset, .unset, .unset, .unset] [(.int 5), (.int 7)])
          refine own_st (fun _ k => XS.icmpNo X48.here hx rfl (hb hby at_151) rfl (XT.ii_le_f (by decide)) k) ?_
          show own_Go p e below _ T48 (mkF m 154 #[iv p0, iv p1, iv p2, iv p3, iv p4, iv p5, iv 7, iv bx0, iv bx1, iv bx2, iv bx3, iv bx4, iv bx5, iv bx6, rv a1, .unset, .unset, .unset, .unset] [])
          refine own_st (fun _ k => XS.aload X48.here hx rfl (hb hby at_154) rfl rfl k) ?_
          show own_Go p e below _ T48 (mkF m 156 #[iv p0, iv p1, iv p2, iv p3, iv p4, iv p5, iv 7, iv bx0, iv bx1, iv bx2, iv bx3, iv bx4, iv bx5, iv bx6, rv a1, .unset, .unset, .unset, .unset] [(.ref a1)])
          refine own_st (fun _ k => XT.iconstV X48.here hx rfl (5 : Int32) (hb hby at_156) (by decide) k) ?_
          show own_Go p e below _ T48 (mkF m 157 #[iv p0, iv p1, iv p2, iv p3, iv p4, iv p5, iv 7, iv bx0, iv bx1, iv bx2, iv bx3, iv bx4, iv bx5, iv bx6, rv a1, .unset, .unset, .unset, .unset] [(.int 5), (.ref a1)])
          refine own_st (fun _ k => XS.iload X48.here hx rfl (hb hby at_157) rfl k) ?_
          show own_Go p e below _ T48 (mkF m 159 #[iv p0, iv p1, iv p2, iv p3, iv p4, iv p5, iv 7, iv bx0, iv bx1, iv bx2, iv bx3, iv bx4, iv bx5, iv bx6, rv a1, .unset, .unset, .unset, .unset] [(.int bx5), (.int 5), (.ref a1)])
          obtain ⟨T49, h49, X49, e49, W49, V49, st49⟩ := own_stB X48 hx hZ e48 V48_a1 (j := (5 : Int32)) ⟨by decide, by decide⟩ 5 rfl (Nat.le_of_ble_eq_true rfl) (g := (mkF m 159 #[iv p0, iv p1, iv p2, iv p3, iv p4, iv p5, iv 7, iv bx0, iv bx1, iv bx2, iv bx3, iv bx4, iv bx5, iv bx6, rv a1, .unset, .unset, .unset, .unset] [(.int bx5), (.int 5), (.ref a1)])) rfl rfl (hb hby at_159)
          have V49_a1 : Arv Z h49 a1 k_a1 .byte (7 : Int32) [(.int bx0.toInt8.toInt32), (.int bx1.toInt8.toInt32), (.int bx2.toInt8.toInt32), (.int bx3.toInt8.toInt32), (.int bx4.toInt8.toInt32), (.int bx5.toInt8.toInt32), (.int 0)] (.int 0) := V49
          have O49 := O48.wr W49 g_a1
          have Z49 : n0 ≤ h49.size := by rw [W49.size]; exact Z48
          clear O48 Z48 V48_a1 W49
          have N49 := Fr.snoc X49 N48 g_a1
          clear X48 e48
          refine own_st st49 ?_
          clear st49
          show own_Go p e below _ T49 (mkF m 160 #[iv p0, iv p1, iv p2, iv p3, iv p4, iv p5, iv 7, iv bx0, iv bx1, iv bx2, iv bx3, iv bx4, iv bx5, iv bx6, rv a1, .unset, .unset, .unset, .unset] [])
          refine own_st (fun _ k => XS.iload X49.here hx rfl (hb hby at_160) rfl k) ?_
          show own_Go p e below _ T49 (mkF m 162 #[iv p0, iv p1, iv p2, iv p3, iv p4, iv p5, iv 7, iv bx0, iv bx1, iv bx2, iv bx3, iv bx4, iv bx5, iv bx6, rv a1, .unset, .unset, .unset, .unset] [(.int 7)])
          refine own_st (fun _ k => XT.bipushV X49.here hx rfl (6 : Int32) (hb hby at_162) (by decide) k) ?_
          show own_Go p e below _ T49 (mkF m 164 #[iv p0, iv p1, iv p2, iv p3, iv p4, iv p5, iv 7, iv bx0, iv bx1, iv bx2, iv bx3, iv bx4, iv bx5, iv bx6, rv a1, .unset, .unset, .unset, .unset] [(.int 6), (.int 7)])
          refine own_st (fun _ k => XS.icmpNo X49.here hx rfl (hb hby at_164) rfl (XT.ii_le_f (by decide)) k) ?_
          show own_Go p e below _ T49 (mkF m 167 #[iv p0, iv p1, iv p2, iv p3, iv p4, iv p5, iv 7, iv bx0, iv bx1, iv bx2, iv bx3, iv bx4, iv bx5, iv bx6, rv a1, .unset, .unset, .unset, .unset] [])
          refine own_st (fun _ k => XS.aload X49.here hx rfl (hb hby at_167) rfl rfl k) ?_
          show own_Go p e below _ T49 (mkF m 169 #[iv p0, iv p1, iv p2, iv p3, iv p4, iv p5, iv 7, iv bx0, iv bx1, iv bx2, iv bx3, iv bx4, iv bx5, iv bx6, rv a1, .unset, .unset, .unset, .unset] [(.ref a1)])
          refine own_st (fun _ k => XT.bipushV X49.here hx rfl (6 : Int32) (hb hby at_169) (by decide) k) ?_
          show own_Go p e below _ T49 (mkF m 171 #[iv p0, iv p1, iv p2, iv p3, iv p4, iv p5, iv 7, iv bx0, iv bx1, iv bx2, iv bx3, iv bx4, iv bx5, iv bx6, rv a1, .unset, .unset, .unset, .unset] [(.int 6), (.ref a1)])
          refine own_st (fun _ k => XS.iload X49.here hx rfl (hb hby at_171) rfl k) ?_
          show own_Go p e below _ T49 (mkF m 173 #[iv p0, iv p1, iv p2, iv p3, iv p4, iv p5, iv 7, iv bx0, iv bx1, iv bx2, iv bx3, iv bx4, iv bx5, iv bx6, rv a1, .unset, .unset, .unset, .unset] [(.int bx6), (.int 6), (.ref a1)])
          obtain ⟨T50, h50, X50, e50, W50, V50, st50⟩ := own_stB X49 hx hZ e49 V49_a1 (j := (6 : Int32)) ⟨by decide, by decide⟩ 6 rfl (Nat.le_of_ble_eq_true rfl) (g := (mkF m 173 #[iv p0, iv p1, iv p2, iv p3, iv p4, iv p5, iv 7, iv bx0, iv bx1, iv bx2, iv bx3, iv bx4, iv bx5, iv bx6, rv a1, .unset, .unset, .unset, .unset] [(.int bx6), (.int 6), (.ref a1)])) rfl rfl (hb hby at_173)
          have V50_a1 : Arv Z h50 a1 k_a1 .byte (7 : Int32) [(.int bx0.toInt8.toInt32), (.int bx1.toInt8.toInt32), (.int bx2.toInt8.toInt32), (.int bx3.toInt8.toInt32), (.int bx4.toInt8.toInt32), (.int bx5.toInt8.toInt32), (.int bx6.toInt8.toInt32)] (.int 0) := V50
          have O50 := O49.wr W50 g_a1
          have Z50 : n0 ≤ h50.size := by rw [W50.size]; exact Z49
          clear O49 Z49 V49_a1 W50
          have N50 := Fr.snoc X50 N49 g_a1
          clear X49 e49
          refine own_st st50 ?_
          clear st50
          show own_Go p e below _ T50 (mkF m 174 #[iv p0, iv p1, iv p2, iv p3, iv p4, iv p5, iv 7, iv bx0, iv bx1, iv bx2, iv bx3, iv bx4, iv bx5, iv bx6, rv a1, .unset, .unset, .unset, .unset] [])
          refine own_st (fun _ k => XS.aload X50.here hx rfl (hb hby at_174) rfl rfl k) ?_
          show own_Go p e below _ T50 (mkF m 176 #[iv p0, iv p1, iv p2, iv p3, iv p4, iv p5, iv 7, iv bx0, iv bx1, iv bx2, iv bx3, iv bx4, iv bx5, iv bx6, rv a1, .unset, .unset, .unset, .unset] [(.ref a1)])
          have VBx := VB.ext O50.2
          obtain ⟨_, _, ⟨T51, L51, k51, n51⟩, -, X51, ⟨Lc51, hQ51, l51, y51, z51⟩, st51⟩ := Jvm.LawKit.callS X50 hx (y := (⟨"com/example/broken_to_found/brokentofound/watch/UrlList", "byteOrderMarkLength", "([B)I"⟩ : MethodName)) hown (mvT hZ (hw _ (List.mem_of_getElem? (i := 1) rfl))) (mvT hZ (hw _ (List.mem_of_getElem? (i := 2) rfl))) (mvT hZ (hw _ (List.mem_of_getElem? (i := 3) rfl))) (mvT hZ (hw _ (List.mem_of_getElem? (i := 4) rfl))) (by decide) (backOf (W := 0) (own_rm_bom l Z a0 hw [] a1 k_a1 (7 : Int32) [(.int bx0.toInt8.toInt32), (.int bx1.toInt8.toInt32), (.int bx2.toInt8.toInt32), (.int bx3.toInt8.toInt32), (.int bx4.toInt8.toInt32), (.int bx5.toInt8.toInt32), (.int bx6.toInt8.toInt32)] bx0.toInt8.toInt32 bx1.toInt8.toInt32 bx2.toInt8.toInt32 w_B kB h50 n0 Z50 V50_a1 VBx (by decide) rfl rfl rfl (S_B.ext O50.2)) hZ (hw _ (List.mem_of_getElem? (i := 4) rfl)) (hw _ (List.mem_of_getElem? (i := 3) rfl)) (by decide) (by decide)) (g := (mkF m 176 #[iv p0, iv p1, iv p2, iv p3, iv p4, iv p5, iv 7, iv bx0, iv bx1, iv bx2, iv bx3, iv bx4, iv bx5, iv bx6, rv a1, .unset, .unset, .unset, .unset] [(.ref a1)])) rfl (by rw [hml]; rfl) (argsL := [(.ref a1)]) (rest := []) (lenOf own_pd3 rfl) rfl (by show 2 * 0 + _ ≤ _; exact Nat.le_of_eq rfl) (hb hby at_176) (fun _ _ => ⟨rfl, e50, (by decide : 1 + 0 ≤ _), (by decide : 7 + 0 ≤ _)⟩)
          dsimp only [Pt.U, Pt.locs, Pt.cells, Pt.slots] at X51 l51 y51 z51 st51 hQ51
          subst l51 y51 z51
          obtain ⟨rfl, N51, eh51⟩ := hQ51
          have M51 := Fr.app N50 N51
          refine own_st st51 ?_
          clear N50 X50 N51 e50 st51
          show own_Go p e below _ T51 (mkF m 179 #[iv p0, iv p1, iv p2, iv p3, iv p4, iv p5, iv 7, iv bx0, iv bx1, iv bx2, iv bx3, iv bx4, iv bx5, iv bx6, rv a1, .unset, .unset, .unset, .unset] [(.int (own_bom bx0.toInt8.toInt32 bx1.toInt8.toInt32 bx2.toInt8.toInt32))])
          refine own_st (fun _ k => XS.istore X51.here hx rfl (hb hby at_179) rfl (l' := #[iv p0, iv p1, iv p2, iv p3, iv p4, iv p5, iv 7, iv bx0, iv bx1, iv bx2, iv bx3, iv bx4, iv bx5, iv bx6, rv a1, iv (own_bom bx0.toInt8.toInt32 bx1.toInt8.toInt32 bx2.toInt8.toInt32), .unset, .unset, .unset]) rfl k) ?_
          show own_Go p e below _ T51 (mkF m 181 #[iv p0, iv p1, iv p2, iv p3, iv p4, iv p5, iv 7, iv bx0, iv bx1, iv bx2, iv bx3, iv bx4, iv bx5, iv bx6, rv a1, iv (own_bom bx0.toInt8.toInt32 bx1.toInt8.toInt32 bx2.toInt8.toInt32), .unset, .unset, .unset] [])
          refine own_st (fun _ k => XS.iload X51.here hx rfl (hb hby at_181) rfl k) ?_
          show own_Go p e below _ T51 (mkF m 183 #[iv p0, iv p1, iv p2, iv p3, iv p4, iv p5, iv 7, iv bx0, iv bx1, iv bx2, iv bx3, iv bx4, iv bx5, iv bx6, rv a1, iv (own_bom bx0.toInt8.toInt32 bx1.toInt8.toInt32 bx2.toInt8.toInt32), .unset, .unset, .unset] [(.int 7)])
          refine own_st (fun _ k => XT.iconstV X51.here hx rfl (3 : Int32) (hb hby at_183) (by decide) k) ?_
          show own_Go p e below _ T51 (mkF m 184 #[iv p0, iv p1, iv p2, iv p3, iv p4, iv p5, iv 7, iv bx0, iv bx1, iv bx2, iv bx3, iv bx4, iv bx5, iv bx6, rv a1, iv (own_bom bx0.toInt8.toInt32 bx1.toInt8.toInt32 bx2.toInt8.toInt32), .unset, .unset, .unset] [(.int 3), (.int 7)])
          have KE : ∀ mk ex : Int32, ex = (own_bom bx0.toInt8.toInt32 bx1.toInt8.toInt32 bx2.toInt8.toInt32) → own_Go p e below (own_K s (own_Q_law Z p0 p1 p2 p3 p4 p5 w_B kB h0 n0) 16 128) T51 (mkF m 227 #[iv p0, iv p1, iv p2, iv p3, iv p4, iv p5, iv 7, iv bx0, iv bx1, iv bx2, iv bx3, iv bx4, iv bx5, iv bx6, rv a1, iv (own_bom bx0.toInt8.toInt32 bx1.toInt8.toInt32 bx2.toInt8.toInt32), iv mk, iv ex, .unset] []) := by
            intro mk ex hex
            show own_Go p e below _ T51 (mkF m 227 #[iv p0, iv p1, iv p2, iv p3, iv p4, iv p5, iv 7, iv bx0, iv bx1, iv bx2, iv bx3, iv bx4, iv bx5, iv bx6, rv a1, iv (own_bom bx0.toInt8.toInt32 bx1.toInt8.toInt32 bx2.toInt8.toInt32), iv mk, iv ex, .unset] [])
            refine own_st (fun _ k => XS.aload X51.here hx rfl (hb hby at_227) rfl rfl k) ?_
            show own_Go p e below _ T51 (mkF m 229 #[iv p0, iv p1, iv p2, iv p3, iv p4, iv p5, iv 7, iv bx0, iv bx1, iv bx2, iv bx3, iv bx4, iv bx5, iv bx6, rv a1, iv (own_bom bx0.toInt8.toInt32 bx1.toInt8.toInt32 bx2.toInt8.toInt32), iv mk, iv ex, .unset] [(.ref a1)])
            refine own_st (fun _ k => own_len X51 hx hZ eh51 V50_a1 rfl rfl (hb hby at_229) k) ?_
            show own_Go p e below _ T51 (mkF m 230 #[iv p0, iv p1, iv p2, iv p3, iv p4, iv p5, iv 7, iv bx0, iv bx1, iv bx2, iv bx3, iv bx4, iv bx5, iv bx6, rv a1, iv (own_bom bx0.toInt8.toInt32 bx1.toInt8.toInt32 bx2.toInt8.toInt32), iv mk, iv ex, .unset] [(.int 7)])
            refine own_st (fun _ k => XS.iload X51.here hx rfl (hb hby at_230) rfl k) ?_
            show own_Go p e below _ T51 (mkF m 232 #[iv p0, iv p1, iv p2, iv p3, iv p4, iv p5, iv 7, iv bx0, iv bx1, iv bx2, iv bx3, iv bx4, iv bx5, iv bx6, rv a1, iv (own_bom bx0.toInt8.toInt32 bx1.toInt8.toInt32 bx2.toInt8.toInt32), iv mk, iv ex, .unset] [(.int 7), (.int 7)])
            refine own_st (fun _ k => XS.icmpNo X51.here hx rfl (hb hby at_232) rfl (XT.ii_ne_f rfl) k) ?_
            show own_Go p e below _ T51 (mkF m 235 #[iv p0, iv p1, iv p2, iv p3, iv p4, iv p5, iv 7, iv bx0, iv bx1, iv bx2, iv bx3, iv bx4, iv bx5, iv bx6, rv a1, iv (own_bom bx0.toInt8.toInt32 bx1.toInt8.toInt32 bx2.toInt8.toInt32), iv mk, iv ex, .unset] [])
            refine own_st (fun _ k => XS.iload X51.here hx rfl (hb hby at_235) rfl k) ?_
            show own_Go p e below _ T51 (mkF m 237 #[iv p0, iv p1, iv p2, iv p3, iv p4, iv p5, iv 7, iv bx0, iv bx1, iv bx2, iv bx3, iv bx4, iv bx5, iv bx6, rv a1, iv (own_bom bx0.toInt8.toInt32 bx1.toInt8.toInt32 bx2.toInt8.toInt32), iv mk, iv ex, .unset] [(.int 7)])
            refine own_st (fun _ k => XS.ifNo X51.here hx rfl (hb hby at_237) rfl (XT.i0_le_f (by decide)) k) ?_
            show own_Go p e below _ T51 (mkF m 240 #[iv p0, iv p1, iv p2, iv p3, iv p4, iv p5, iv 7, iv bx0, iv bx1, iv bx2, iv bx3, iv bx4, iv bx5, iv bx6, rv a1, iv (own_bom bx0.toInt8.toInt32 bx1.toInt8.toInt32 bx2.toInt8.toInt32), iv mk, iv ex, .unset] [])
            refine own_st (fun _ k => XS.aload X51.here hx rfl (hb hby at_240) rfl rfl k) ?_
            show own_Go p e below _ T51 (mkF m 242 #[iv p0, iv p1, iv p2, iv p3, iv p4, iv p5, iv 7, iv bx0, iv bx1, iv bx2, iv bx3, iv bx4, iv bx5, iv bx6, rv a1, iv (own_bom bx0.toInt8.toInt32 bx1.toInt8.toInt32 bx2.toInt8.toInt32), iv mk, iv ex, .unset] [(.ref a1)])
            refine own_st (fun _ k => XT.iconstV X51.here hx rfl (0 : Int32) (hb hby at_242) (by decide) k) ?_
            show own_Go p e below _ T51 (mkF m 243 #[iv p0, iv p1, iv p2, iv p3, iv p4, iv p5, iv 7, iv bx0, iv bx1, iv bx2, iv bx3, iv bx4, iv bx5, iv bx6, rv a1, iv (own_bom bx0.toInt8.toInt32 bx1.toInt8.toInt32 bx2.toInt8.toInt32), iv mk, iv ex, .unset] [(.int 0), (.ref a1)])
            refine own_st (fun _ k => own_ldB X51 hx hZ eh51 V50_a1 ⟨by decide, by decide⟩ (v := (.int bx0.toInt8.toInt32)) rfl rfl rfl (hb hby at_243) k) ?_
            show own_Go p e below _ T51 (mkF m 244 #[iv p0, iv p1, iv p2, iv p3, iv p4, iv p5, iv 7, iv bx0, iv bx1, iv bx2, iv bx3, iv bx4, iv bx5, iv bx6, rv a1, iv (own_bom bx0.toInt8.toInt32 bx1.toInt8.toInt32 bx2.toInt8.toInt32), iv mk, iv ex, .unset] [(.int bx0.toInt8.toInt32)])
            refine own_st (fun _ k => XS.iload X51.here hx rfl (hb hby at_244) rfl k) ?_
            show own_Go p e below _ T51 (mkF m 246 #[iv p0, iv p1, iv p2, iv p3, iv p4, iv p5, iv 7, iv bx0, iv bx1, iv bx2, iv bx3, iv bx4, iv bx5, iv bx6, rv a1, iv (own_bom bx0.toInt8.toInt32 bx1.toInt8.toInt32 bx2.toInt8.toInt32), iv mk, iv ex, .unset] [(.int bx0), (.int bx0.toInt8.toInt32)])
            refine own_st (fun _ k => XS.icmpNo X51.here hx rfl (hb hby at_246) rfl (XT.ii_ne_f ok0) k) ?_
            show own_Go p e below _ T51 (mkF m 249 #[iv p0, iv p1, iv p2, iv p3, iv p4, iv p5, iv 7, iv bx0, iv bx1, iv bx2, iv bx3, iv bx4, iv bx5, iv bx6, rv a1, iv (own_bom bx0.toInt8.toInt32 bx1.toInt8.toInt32 bx2.toInt8.toInt32), iv mk, iv ex, .unset] [])
            refine own_st (fun _ k => XS.iload X51.here hx rfl (hb hby at_249) rfl k) ?_
            show own_Go p e below _ T51 (mkF m 251 #[iv p0, iv p1, iv p2, iv p3, iv p4, iv p5, iv 7, iv bx0, iv bx1, iv bx2, iv bx3, iv bx4, iv bx5, iv bx6, rv a1, iv (own_bom bx0.toInt8.toInt32 bx1.toInt8.toInt32 bx2.toInt8.toInt32), iv mk, iv ex, .unset] [(.int 7)])
            refine own_st (fun _ k => XT.iconstV X51.here hx rfl (1 : Int32) (hb hby at_251) (by decide) k) ?_
            show own_Go p e below _ T51 (mkF m 252 #[iv p0, iv p1, iv p2, iv p3, iv p4, iv p5, iv 7, iv bx0, iv bx1, iv bx2, iv bx3, iv bx4, iv bx5, iv bx6, rv a1, iv (own_bom bx0.toInt8.toInt32 bx1.toInt8.toInt32 bx2.toInt8.toInt32), iv mk, iv ex, .unset] [(.int 1), (.int 7)])
            refine own_st (fun _ k => XS.icmpNo X51.here hx rfl (hb hby at_252) rfl (XT.ii_le_f (by decide)) k) ?_
            show own_Go p e below _ T51 (mkF m 255 #[iv p0, iv p1, iv p2, iv p3, iv p4, iv p5, iv 7, iv bx0, iv bx1, iv bx2, iv bx3, iv bx4, iv bx5, iv bx6, rv a1, iv (own_bom bx0.toInt8.toInt32 bx1.toInt8.toInt32 bx2.toInt8.toInt32), iv mk, iv ex, .unset] [])
            refine own_st (fun _ k => XS.aload X51.here hx rfl (hb hby at_255) rfl rfl k) ?_
            show own_Go p e below _ T51 (mkF m 257 #[iv p0, iv p1, iv p2, iv p3, iv p4, iv p5, iv 7, iv bx0, iv bx1, iv bx2, iv bx3, iv bx4, iv bx5, iv bx6, rv a1, iv (own_bom bx0.toInt8.toInt32 bx1.toInt8.toInt32 bx2.toInt8.toInt32), iv mk, iv ex, .unset] [(.ref a1)])
            refine own_st (fun _ k => XT.iconstV X51.here hx rfl (1 : Int32) (hb hby at_257) (by decide) k) ?_
            show own_Go p e below _ T51 (mkF m 258 #[iv p0, iv p1, iv p2, iv p3, iv p4, iv p5, iv 7, iv bx0, iv bx1, iv bx2, iv bx3, iv bx4, iv bx5, iv bx6, rv a1, iv (own_bom bx0.toInt8.toInt32 bx1.toInt8.toInt32 bx2.toInt8.toInt32), iv mk, iv ex, .unset] [(.int 1), (.ref a1)])
            refine own_st (fun _ k => own_ldB X51 hx hZ eh51 V50_a1 ⟨by decide, by decide⟩ (v := (.int bx1.toInt8.toInt32)) rfl rfl rfl (hb hby at_258) k) ?_
            show own_Go p e below _ T51 (mkF m 259 #[iv p0, iv p1, iv p2, iv p3, iv p4, iv p5, iv 7, iv bx0, iv bx1, iv bx2, iv bx3, iv bx4, iv bx5, iv bx6, rv a1, iv (own_bom bx0.toInt8.toInt32 bx1.toInt8.toInt32 bx2.toInt8.toInt32), iv mk, iv ex, .unset] [(.int bx1.toInt8.toInt32)])
            refine own_st (fun _ k => XS.iload X51.here hx rfl (hb hby at_259) rfl k) ?_
            show own_Go p e below _ T51 (mkF m 261 #[iv p0, iv p1, iv p2, iv p3, iv p4, iv p5, iv 7, iv bx0, iv bx1, iv bx2, iv bx3, iv bx4, iv bx5, iv bx6, rv a1, iv (own_bom bx0.toInt8.toInt32 bx1.toInt8.toInt32 bx2.toInt8.toInt32), iv mk, iv ex, .unset] [(.int bx1), (.int bx1.toInt8.toInt32)])
            refine own_st (fun _ k => XS.icmpNo X51.here hx rfl (hb hby at_261) rfl (XT.ii_ne_f ok1) k) ?_
            show own_Go p e below _ T51 (mkF m 264 #[iv p0, iv p1, iv p2, iv p3, iv p4, iv p5, iv 7, iv bx0, iv bx1, iv bx2, iv bx3, iv bx4, iv bx5, iv bx6, rv a1, iv (own_bom bx0.toInt8.toInt32 bx1.toInt8.toInt32 bx2.toInt8.toInt32), iv mk, iv ex, .unset] [])
            refine own_st (fun _ k => XS.iload X51.here hx rfl (hb hby at_264) rfl k) ?_
            show own_Go p e below _ T51 (mkF m 266 #[iv p0, iv p1, iv p2, iv p3, iv p4, iv p5, iv 7, iv bx0, iv bx1, iv bx2, iv bx3, iv bx4, iv bx5, iv bx6, rv a1, iv (own_bom bx0.toInt8.toInt32 bx1.toInt8.toInt32 bx2.toInt8.toInt32), iv mk, iv ex, .unset] [(.int 7)])
            refine own_st (fun _ k => XT.iconstV X51.here hx rfl (2 : Int32) (hb hby at_266) (by decide) k) ?_
            show own_Go p e below _ T51 (mkF m 267 #[iv p0, iv p1, iv p2, iv p3, iv p4, iv p5, iv 7, iv bx0, iv bx1, iv bx2, iv bx3, iv bx4, iv bx5, iv bx6, rv a1, iv (own_bom bx0.toInt8.toInt32 bx1.toInt8.toInt32 bx2.toInt8.toInt32), iv mk, iv ex, .unset] [(.int 2), (.int 7)])
            refine own_st (fun _ k => XS.icmpNo X51.here hx rfl (hb hby at_267) rfl (XT.ii_le_f (by decide)) k) ?_
            show own_Go p e below _ T51 (mkF m 270 #[iv p0, iv p1, iv p2, iv p3, iv p4, iv p5, iv 7, iv bx0, iv bx1, iv bx2, iv bx3, iv bx4, iv bx5, iv bx6, rv a1, iv (own_bom bx0.toInt8.toInt32 bx1.toInt8.toInt32 bx2.toInt8.toInt32), iv mk, iv ex, .unset] [])
            refine own_st (fun _ k => XS.aload X51.here hx rfl (hb hby at_270) rfl rfl k) ?_
            show own_Go p e below _ T51 (mkF m 272 #[iv p0, iv p1, iv p2, iv p3, iv p4, iv p5, iv 7, iv bx0, iv bx1, iv bx2, iv bx3, iv bx4, iv bx5, iv bx6, rv a1, iv (own_bom bx0.toInt8.toInt32 bx1.toInt8.toInt32 bx2.toInt8.toInt32), iv mk, iv ex, .unset] [(.ref a1)])
            refine own_st (fun _ k => XT.iconstV X51.here hx rfl (2 : Int32) (hb hby at_272) (by decide) k) ?_
            show own_Go p e below _ T51 (mkF m 273 #[iv p0, iv p1, iv p2, iv p3, iv p4, iv p5, iv 7, iv bx0, iv bx1, iv bx2, iv bx3, iv bx4, iv bx5, iv bx6, rv a1, iv (own_bom bx0.toInt8.toInt32 bx1.toInt8.toInt32 bx2.toInt8.toInt32), iv mk, iv ex, .unset] [(.int 2), (.ref a1)])
            refine own_st (fun _ k => own_ldB X51 hx hZ eh51 V50_a1 ⟨by decide, by decide⟩ (v := (.int bx2.toInt8.toInt32)) rfl rfl rfl (hb hby at_273) k) ?_
            show own_Go p e below _ T51 (mkF m 274 #[iv p0, iv p1, iv p2, iv p3, iv p4, iv p5, iv 7, iv bx0, iv bx1, iv bx2, iv bx3, iv bx4, iv bx5, iv bx6, rv a1, iv (own_bom bx0.toInt8.toInt32 bx1.toInt8.toInt32 bx2.toInt8.toInt32), iv mk, iv ex, .unset] [(.int bx2.toInt8.toInt32)])
            refine own_st (fun _ k => XS.iload X51.here hx rfl (hb hby at_274) rfl k) ?_
            show own_Go p e below _ T51 (mkF m 276 #[iv p0, iv p1, iv p2, iv p3, iv p4, iv p5, iv 7, iv bx0, iv bx1, iv bx2, iv bx3, iv bx4, iv bx5, iv bx6, rv a1, iv (own_bom bx0.toInt8.toInt32 bx1.toInt8.toInt32 bx2.toInt8.toInt32), iv mk, iv ex, .unset] [(.int bx2), (.int bx2.toInt8.toInt32)])
            refine own_st (fun _ k => XS.icmpNo X51.here hx rfl (hb hby at_276) rfl (XT.ii_ne_f ok2) k) ?_
            show own_Go p e below _ T51 (mkF m 279 #[iv p0, iv p1, iv p2, iv p3, iv p4, iv p5, iv 7, iv bx0, iv bx1, iv bx2, iv bx3, iv bx4, iv bx5, iv bx6, rv a1, iv (own_bom bx0.toInt8.toInt32 bx1.toInt8.toInt32 bx2.toInt8.toInt32), iv mk, iv ex, .unset] [])
            refine own_st (fun _ k => XS.iload X51.here hx rfl (hb hby at_279) rfl k) ?_
            show own_Go p e below _ T51 (mkF m 281 #[iv p0, iv p1, iv p2, iv p3, iv p4, iv p5, iv 7, iv bx0, iv bx1, iv bx2, iv bx3, iv bx4, iv bx5, iv bx6, rv a1, iv (own_bom bx0.toInt8.toInt32 bx1.toInt8.toInt32 bx2.toInt8.toInt32), iv mk, iv ex, .unset] [(.int 7)])
            refine own_st (fun _ k => XT.iconstV X51.here hx rfl (3 : Int32) (hb hby at_281) (by decide) k) ?_
            show own_Go p e below _ T51 (mkF m 282 #[iv p0, iv p1, iv p2, iv p3, iv p4, iv p5, iv 7, iv bx0, iv bx1, iv bx2, iv bx3, iv bx4, iv bx5, iv bx6, rv a1, iv (own_bom bx0.toInt8.toInt32 bx1.toInt8.toInt32 bx2.toInt8.toInt32), iv mk, iv ex, .unset] [(.int 3), (.int 7)])
            refine own_st (fun _ k => XS.icmpNo X51.here hx rfl (hb hby at_282) rfl (XT.ii_le_f (by decide)) k) ?_
            show own_Go p e below _ T51 (mkF m 285 #[iv p0, iv p1, iv p2, iv p3, iv p4, iv p5, iv 7, iv bx0, iv bx1, iv bx2, iv bx3, iv bx4, iv bx5, iv bx6, rv a1, iv (own_bom bx0.toInt8.toInt32 bx1.toInt8.toInt32 bx2.toInt8.toInt32), iv mk, iv ex, .unset] [])
            refine own_st (fun _ k => XS.aload X51.here hx rfl (hb hby at_285) rfl rfl k) ?_
            show own_Go p e below _ T51 (mkF m 287 #[iv p0, iv p1, iv p2, iv p3, iv p4, iv p5, iv 7, iv bx0, iv bx1, iv bx2, iv bx3, iv bx4, iv bx5, iv bx6, rv a1, iv (own_bom bx0.toInt8.toInt32 bx1.toInt8.toInt32 bx2.toInt8.toInt32), iv mk, iv ex, .unset] [(.ref a1)])
            refine own_st (fun _ k => XT.iconstV X51.here hx rfl (3 : Int32) (hb hby at_287) (by decide) k) ?_
            show own_Go p e below _ T51 (mkF m 288 #[iv p0, iv p1, iv p2, iv p3, iv p4, iv p5, iv 7, iv bx0, iv bx1, iv bx2, iv bx3, iv bx4, iv bx5, iv bx6, rv a1, iv (own_bom bx0.toInt8.toInt32 bx1.toInt8.toInt32 bx2.toInt8.toInt32), iv mk, iv ex, .unset] [(.int 3), (.ref a1)])
            refine own_st (fun _ k => own_ldB X51 hx hZ eh51 V50_a1 ⟨by decide, by decide⟩ (v := (.int bx3.toInt8.toInt32)) rfl rfl rfl (hb hby at_288) k) ?_
            show own_Go p e below _ T51 (mkF m 289 #[iv p0, iv p1, iv p2, iv p3, iv p4, iv p5, iv 7, iv bx0, iv bx1, iv bx2, iv bx3, iv bx4, iv bx5, iv bx6, rv a1, iv (own_bom bx0.toInt8.toInt32 bx1.toInt8.toInt32 bx2.toInt8.toInt32), iv mk, iv ex, .unset] [(.int bx3.toInt8.toInt32)])
            refine own_st (fun _ k => XS.iload X51.here hx rfl (hb hby at_289) rfl k) ?_
            show own_Go p e below _ T51 (mkF m 291 #[iv p0, iv p1, iv p2, iv p3, iv p4, iv p5, iv 7, iv bx0, iv bx1, iv bx2, iv bx3, iv bx4, iv bx5, iv bx6, rv a1, iv (own_bom bx0.toInt8.toInt32 bx1.toInt8.toInt32 bx2.toInt8.toInt32), iv mk, iv ex, .unset] [(.int bx3), (.int bx3.toInt8.toInt32)])
            refine own_st (fun _ k => XS.icmpNo X51.here hx rfl (hb hby at_291) rfl (XT.ii_ne_f ok3) k) ?_
            show own_Go p e below _ T51 (mkF m 294 #[iv p0, iv p1, iv p2, iv p3, iv p4, iv p5, iv 7, iv bx0, iv bx1, iv bx2, iv bx3, iv bx4, iv bx5, iv bx6, rv a1, iv (own_bom bx0.toInt8.toInt32 bx1.toInt8.toInt32 bx2.toInt8.toInt32), iv mk, iv ex, .unset] [])
            refine own_st (fun _ k => XT.iconstV X51.here hx rfl (1 : Int32) (hb hby at_294) (by decide) k) ?_
            show own_Go p e below _ T51 (mkF m 295 #[iv p0, iv p1, iv p2, iv p3, iv p4, iv p5, iv 7, iv bx0, iv bx1, iv bx2, iv bx3, iv bx4, iv bx5, iv bx6, rv a1, iv (own_bom bx0.toInt8.toInt32 bx1.toInt8.toInt32 bx2.toInt8.toInt32), iv mk, iv ex, .unset] [(.int 1)])
            refine own_st (fun _ k => XS.goto X51.here hx rfl (pc0 := 295) (pc' := 299) rfl (hb hby at_295) (by decide) (by decide) k) ?_
            show own_Go p e below _ T51 (mkF m 299 #[iv p0, iv p1, iv p2, iv p3, iv p4, iv p5, iv 7, iv bx0, iv bx1, iv bx2, iv bx3, iv bx4, iv bx5, iv bx6, rv a1, iv (own_bom bx0.toInt8.toInt32 bx1.toInt8.toInt32 bx2.toInt8.toInt32), iv mk, iv ex, .unset] [(.int 1)])
            refine own_st (fun _ k => XS.istore X51.here hx rfl (hb hby at_299) rfl (l' := #[iv p0, iv p1, iv p2, iv p3, iv p4, iv p5, iv 7, iv bx0, iv bx1, iv bx2, iv bx3, iv bx4, iv bx5, iv bx6, rv a1, iv (own_bom bx0.toInt8.toInt32 bx1.toInt8.toInt32 bx2.toInt8.toInt32), iv mk, iv ex, iv 1]) rfl k) ?_
            show own_Go p e below _ T51 (mkF m 301 #[iv p0, iv p1, iv p2, iv p3, iv p4, iv p5, iv 7, iv bx0, iv bx1, iv bx2, iv bx3, iv bx4, iv bx5, iv bx6, rv a1, iv (own_bom bx0.toInt8.toInt32 bx1.toInt8.toInt32 bx2.toInt8.toInt32), iv mk, iv ex, iv 1] [])
            refine own_st (fun _ k => XS.iload X51.here hx rfl (hb hby at_301) rfl k) ?_
            show own_Go p e below _ T51 (mkF m 303 #[iv p0, iv p1, iv p2, iv p3, iv p4, iv p5, iv 7, iv bx0, iv bx1, iv bx2, iv bx3, iv bx4, iv bx5, iv bx6, rv a1, iv (own_bom bx0.toInt8.toInt32 bx1.toInt8.toInt32 bx2.toInt8.toInt32), iv mk, iv ex, iv 1] [(.int (own_bom bx0.toInt8.toInt32 bx1.toInt8.toInt32 bx2.toInt8.toInt32))])
            refine own_st (fun _ k => XS.iload X51.here hx rfl (hb hby at_303) rfl k) ?_
            show own_Go p e below _ T51 (mkF m 305 #[iv p0, iv p1, iv p2, iv p3, iv p4, iv p5, iv 7, iv bx0, iv bx1, iv bx2, iv bx3, iv bx4, iv bx5, iv bx6, rv a1, iv (own_bom bx0.toInt8.toInt32 bx1.toInt8.toInt32 bx2.toInt8.toInt32), iv mk, iv ex, iv 1] [(.int ex), (.int (own_bom bx0.toInt8.toInt32 bx1.toInt8.toInt32 bx2.toInt8.toInt32))])
            refine own_st (fun _ k => XS.icmpNo X51.here hx rfl (hb hby at_305) rfl (XT.ii_ne_f hex.symm) k) ?_
            show own_Go p e below _ T51 (mkF m 308 #[iv p0, iv p1, iv p2, iv p3, iv p4, iv p5, iv 7, iv bx0, iv bx1, iv bx2, iv bx3, iv bx4, iv bx5, iv bx6, rv a1, iv (own_bom bx0.toInt8.toInt32 bx1.toInt8.toInt32 bx2.toInt8.toInt32), iv mk, iv ex, iv 1] [])
            refine own_st (fun _ k => XS.iload X51.here hx rfl (hb hby at_308) rfl k) ?_
            show own_Go p e below _ T51 (mkF m 310 #[iv p0, iv p1, iv p2, iv p3, iv p4, iv p5, iv 7, iv bx0, iv bx1, iv bx2, iv bx3, iv bx4, iv bx5, iv bx6, rv a1, iv (own_bom bx0.toInt8.toInt32 bx1.toInt8.toInt32 bx2.toInt8.toInt32), iv mk, iv ex, iv 1] [(.int 1)])
            refine own_st (fun _ k => XS.ifNo X51.here hx rfl (hb hby at_310) rfl (XT.i0_eq_f (by decide)) k) ?_
            show own_Go p e below _ T51 (mkF m 313 #[iv p0, iv p1, iv p2, iv p3, iv p4, iv p5, iv 7, iv bx0, iv bx1, iv bx2, iv bx3, iv bx4, iv bx5, iv bx6, rv a1, iv (own_bom bx0.toInt8.toInt32 bx1.toInt8.toInt32 bx2.toInt8.toInt32), iv mk, iv ex, iv 1] [])
            refine own_st (fun _ k => XT.iconstV X51.here hx rfl (1 : Int32) (hb hby at_313) (by decide) k) ?_
            show own_Go p e below _ T51 (mkF m 314 #[iv p0, iv p1, iv p2, iv p3, iv p4, iv p5, iv 7, iv bx0, iv bx1, iv bx2, iv bx3, iv bx4, iv bx5, iv bx6, rv a1, iv (own_bom bx0.toInt8.toInt32 bx1.toInt8.toInt32 bx2.toInt8.toInt32), iv mk, iv ex, iv 1] [(.int 1)])
            refine own_st (fun _ k => XS.goto X51.here hx rfl (pc0 := 314) (pc' := 318) rfl (hb hby at_314) (by decide) (by decide) k) ?_
            show own_Go p e below _ T51 (mkF m 318 #[iv p0, iv p1, iv p2, iv p3, iv p4, iv p5, iv 7, iv bx0, iv bx1, iv bx2, iv bx3, iv bx4, iv bx5, iv bx6, rv a1, iv (own_bom bx0.toInt8.toInt32 bx1.toInt8.toInt32 bx2.toInt8.toInt32), iv mk, iv ex, iv 1] [(.int 1)])
            refine own_retN X51 hx Bd.notSynchronized (t := .boolean) Bd.returns (by simp) (hb hby at_318) (by decide) (by decide) ?_
            rw [eh51]
            exact ⟨rfl, M51⟩
          refine own_st (fun _ k => XS.icmpNo X51.here hx rfl (hb hby at_184) rfl (XT.ii_lt_f (by decide)) k) ?_
          show own_Go p e below _ T51 (mkF m 187 #[iv p0, iv p1, iv p2, iv p3, iv p4, iv p5, iv 7, iv bx0, iv bx1, iv bx2, iv bx3, iv bx4, iv bx5, iv bx6, rv a1, iv (own_bom bx0.toInt8.toInt32 bx1.toInt8.toInt32 bx2.toInt8.toInt32), .unset, .unset, .unset] [])
          refine own_st (fun _ k => XS.iload X51.here hx rfl (hb hby at_187) rfl k) ?_
          show own_Go p e below _ T51 (mkF m 189 #[iv p0, iv p1, iv p2, iv p3, iv p4, iv p5, iv 7, iv bx0, iv bx1, iv bx2, iv bx3, iv bx4, iv bx5, iv bx6, rv a1, iv (own_bom bx0.toInt8.toInt32 bx1.toInt8.toInt32 bx2.toInt8.toInt32), .unset, .unset, .unset] [(.int bx0)])
          refine own_st (fun _ k => XT.bipushV X51.here hx rfl (-17 : Int32) (hb hby at_189) (by decide) k) ?_
          show own_Go p e below _ T51 (mkF m 191 #[iv p0, iv p1, iv p2, iv p3, iv p4, iv p5, iv 7, iv bx0, iv bx1, iv bx2, iv bx3, iv bx4, iv bx5, iv bx6, rv a1, iv (own_bom bx0.toInt8.toInt32 bx1.toInt8.toInt32 bx2.toInt8.toInt32), .unset, .unset, .unset] [(.int (-17)), (.int bx0)])
          by_cases cm0 : bx0 = (-17 : Int32)
          · refine own_st (fun _ k => XS.icmpNo X51.here hx rfl (hb hby at_191) rfl (XT.ii_ne_f cm0) k) ?_
            show own_Go p e below _ T51 (mkF m 194 #[iv p0, iv p1, iv p2, iv p3, iv p4, iv p5, iv 7, iv bx0, iv bx1, iv bx2, iv bx3, iv bx4, iv bx5, iv bx6, rv a1, iv (own_bom bx0.toInt8.toInt32 bx1.toInt8.toInt32 bx2.toInt8.toInt32), .unset, .unset, .unset] [])
            refine own_st (fun _ k => XS.iload X51.here hx rfl (hb hby at_194) rfl k) ?_
            show own_Go p e below _ T51 (mkF m 196 #[iv p0, iv p1, iv p2, iv p3, iv p4, iv p5, iv 7, iv bx0, iv bx1, iv bx2, iv bx3, iv bx4, iv bx5, iv bx6, rv a1, iv (own_bom bx0.toInt8.toInt32 bx1.toInt8.toInt32 bx2.toInt8.toInt32), .unset, .unset, .unset] [(.int bx1)])
            refine own_st (fun _ k => XT.bipushV X51.here hx rfl (-69 : Int32) (hb hby at_196) (by decide) k) ?_
            show own_Go p e below _ T51 (mkF m 198 #[iv p0, iv p1, iv p2, iv p3, iv p4, iv p5, iv 7, iv bx0, iv bx1, iv bx2, iv bx3, iv bx4, iv bx5, iv bx6, rv a1, iv (own_bom bx0.toInt8.toInt32 bx1.toInt8.toInt32 bx2.toInt8.toInt32), .unset, .unset, .unset] [(.int (-69)), (.int bx1)])
            by_cases cm1 : bx1 = (-69 : Int32)
            · refine own_st (fun _ k => XS.icmpNo X51.here hx rfl (hb hby at_198) rfl (XT.ii_ne_f cm1) k) ?_
              show own_Go p e below _ T51 (mkF m 201 #[iv p0, iv p1, iv p2, iv p3, iv p4, iv p5, iv 7, iv bx0, iv bx1, iv bx2, iv bx3, iv bx4, iv bx5, iv bx6, rv a1, iv (own_bom bx0.toInt8.toInt32 bx1.toInt8.toInt32 bx2.toInt8.toInt32), .unset, .unset, .unset] [])
              refine own_st (fun _ k => XS.iload X51.here hx rfl (hb hby at_201) rfl k) ?_
              show own_Go p e below _ T51 (mkF m 203 #[iv p0, iv p1, iv p2, iv p3, iv p4, iv p5, iv 7, iv bx0, iv bx1, iv bx2, iv bx3, iv bx4, iv bx5, iv bx6, rv a1, iv (own_bom bx0.toInt8.toInt32 bx1.toInt8.toInt32 bx2.toInt8.toInt32), .unset, .unset, .unset] [(.int bx2)])
              refine own_st (fun _ k => XT.bipushV X51.here hx rfl (-65 : Int32) (hb hby at_203) (by decide) k) ?_
              show own_Go p e below _ T51 (mkF m 205 #[iv p0, iv p1, iv p2, iv p3, iv p4, iv p5, iv 7, iv bx0, iv bx1, iv bx2, iv bx3, iv bx4, iv bx5, iv bx6, rv a1, iv (own_bom bx0.toInt8.toInt32 bx1.toInt8.toInt32 bx2.toInt8.toInt32), .unset, .unset, .unset] [(.int (-65)), (.int bx2)])
              by_cases cm2 : bx2 = (-65 : Int32)
              · refine own_st (fun _ k => XS.icmpNo X51.here hx rfl (hb hby at_205) rfl (XT.ii_ne_f cm2) k) ?_
                show own_Go p e below _ T51 (mkF m 208 #[iv p0, iv p1, iv p2, iv p3, iv p4, iv p5, iv 7, iv bx0, iv bx1, iv bx2, iv bx3, iv bx4, iv bx5, iv bx6, rv a1, iv (own_bom bx0.toInt8.toInt32 bx1.toInt8.toInt32 bx2.toInt8.toInt32), .unset, .unset, .unset] [])
                refine own_st (fun _ k => XT.iconstV X51.here hx rfl (1 : Int32) (hb hby at_208) (by decide) k) ?_
                show own_Go p e below _ T51 (mkF m 209 #[iv p0, iv p1, iv p2, iv p3, iv p4, iv p5, iv 7, iv bx0, iv bx1, iv bx2, iv bx3, iv bx4, iv bx5, iv bx6, rv a1, iv (own_bom bx0.toInt8.toInt32 bx1.toInt8.toInt32 bx2.toInt8.toInt32), .unset, .unset, .unset] [(.int 1)])
                refine own_st (fun _ k => XS.goto X51.here hx rfl (pc0 := 209) (pc' := 213) rfl (hb hby at_209) (by decide) (by decide) k) ?_
                show own_Go p e below _ T51 (mkF m 213 #[iv p0, iv p1, iv p2, iv p3, iv p4, iv p5, iv 7, iv bx0, iv bx1, iv bx2, iv bx3, iv bx4, iv bx5, iv bx6, rv a1, iv (own_bom bx0.toInt8.toInt32 bx1.toInt8.toInt32 bx2.toInt8.toInt32), .unset, .unset, .unset] [(.int 1)])
                refine own_st (fun _ k => XS.istore X51.here hx rfl (hb hby at_213) rfl (l' := #[iv p0, iv p1, iv p2, iv p3, iv p4, iv p5, iv 7, iv bx0, iv bx1, iv bx2, iv bx3, iv bx4, iv bx5, iv bx6, rv a1, iv (own_bom bx0.toInt8.toInt32 bx1.toInt8.toInt32 bx2.toInt8.toInt32), iv 1, .unset, .unset]) rfl k) ?_
                show own_Go p e below _ T51 (mkF m 215 #[iv p0, iv p1, iv p2, iv p3, iv p4, iv p5, iv 7, iv bx0, iv bx1, iv bx2, iv bx3, iv bx4, iv bx5, iv bx6, rv a1, iv (own_bom bx0.toInt8.toInt32 bx1.toInt8.toInt32 bx2.toInt8.toInt32), iv 1, .unset, .unset] [])
                refine own_st (fun _ k => XS.iload X51.here hx rfl (hb hby at_215) rfl k) ?_
                show own_Go p e below _ T51 (mkF m 217 #[iv p0, iv p1, iv p2, iv p3, iv p4, iv p5, iv 7, iv bx0, iv bx1, iv bx2, iv bx3, iv bx4, iv bx5, iv bx6, rv a1, iv (own_bom bx0.toInt8.toInt32 bx1.toInt8.toInt32 bx2.toInt8.toInt32), iv 1, .unset, .unset] [(.int 1)])
                refine own_st (fun _ k => XS.ifNo X51.here hx rfl (hb hby at_217) rfl (XT.i0_eq_f (by decide)) k) ?_
                show own_Go p e below _ T51 (mkF m 220 #[iv p0, iv p1, iv p2, iv p3, iv p4, iv p5, iv 7, iv bx0, iv bx1, iv bx2, iv bx3, iv bx4, iv bx5, iv bx6, rv a1, iv (own_bom bx0.toInt8.toInt32 bx1.toInt8.toInt32 bx2.toInt8.toInt32), iv 1, .unset, .unset] [])
                refine own_st (fun _ k => XT.iconstV X51.here hx rfl (3 : Int32) (hb hby at_220) (by decide) k) ?_
                show own_Go p e below _ T51 (mkF m 221 #[iv p0, iv p1, iv p2, iv p3, iv p4, iv p5, iv 7, iv bx0, iv bx1, iv bx2, iv bx3, iv bx4, iv bx5, iv bx6, rv a1, iv (own_bom bx0.toInt8.toInt32 bx1.toInt8.toInt32 bx2.toInt8.toInt32), iv 1, .unset, .unset] [(.int 3)])
                refine own_st (fun _ k => XS.goto X51.here hx rfl (pc0 := 221) (pc' := 225) rfl (hb hby at_221) (by decide) (by decide) k) ?_
                show own_Go p e below _ T51 (mkF m 225 #[iv p0, iv p1, iv p2, iv p3, iv p4, iv p5, iv 7, iv bx0, iv bx1, iv bx2, iv bx3, iv bx4, iv bx5, iv bx6, rv a1, iv (own_bom bx0.toInt8.toInt32 bx1.toInt8.toInt32 bx2.toInt8.toInt32), iv 1, .unset, .unset] [(.int 3)])
                refine own_st (fun _ k => XS.istore X51.here hx rfl (hb hby at_225) rfl (l' := #[iv p0, iv p1, iv p2, iv p3, iv p4, iv p5, iv 7, iv bx0, iv bx1, iv bx2, iv bx3, iv bx4, iv bx5, iv bx6, rv a1, iv (own_bom bx0.toInt8.toInt32 bx1.toInt8.toInt32 bx2.toInt8.toInt32), iv 1, iv 3, .unset]) rfl k) ?_
                show own_Go p e below _ T51 (mkF m 227 #[iv p0, iv p1, iv p2, iv p3, iv p4, iv p5, iv 7, iv bx0, iv bx1, iv bx2, iv bx3, iv bx4, iv bx5, iv bx6, rv a1, iv (own_bom bx0.toInt8.toInt32 bx1.toInt8.toInt32 bx2.toInt8.toInt32), iv 1, iv 3, .unset] [])
                exact KE _ _ (by simp [own_bom, ok0, ok1, ok2, cm0, cm1, cm2])
              · refine own_st (fun _ k => XS.icmpYes X51.here hx rfl (pc0 := 205) (pc' := 212) rfl (hb hby at_205) rfl (XT.ii_ne_t cm2) (by decide) (by decide) k) ?_
                show own_Go p e below _ T51 (mkF m 212 #[iv p0, iv p1, iv p2, iv p3, iv p4, iv p5, iv 7, iv bx0, iv bx1, iv bx2, iv bx3, iv bx4, iv bx5, iv bx6, rv a1, iv (own_bom bx0.toInt8.toInt32 bx1.toInt8.toInt32 bx2.toInt8.toInt32), .unset, .unset, .unset] [])
                refine own_st (fun _ k => XT.iconstV X51.here hx rfl (0 : Int32) (hb hby at_212) (by decide) k) ?_
                show own_Go p e below _ T51 (mkF m 213 #[iv p0, iv p1, iv p2, iv p3, iv p4, iv p5, iv 7, iv bx0, iv bx1, iv bx2, iv bx3, iv bx4, iv bx5, iv bx6, rv a1, iv (own_bom bx0.toInt8.toInt32 bx1.toInt8.toInt32 bx2.toInt8.toInt32), .unset, .unset, .unset] [(.int 0)])
                refine own_st (fun _ k => XS.istore X51.here hx rfl (hb hby at_213) rfl (l' := #[iv p0, iv p1, iv p2, iv p3, iv p4, iv p5, iv 7, iv bx0, iv bx1, iv bx2, iv bx3, iv bx4, iv bx5, iv bx6, rv a1, iv (own_bom bx0.toInt8.toInt32 bx1.toInt8.toInt32 bx2.toInt8.toInt32), iv 0, .unset, .unset]) rfl k) ?_
                show own_Go p e below _ T51 (mkF m 215 #[iv p0, iv p1, iv p2, iv p3, iv p4, iv p5, iv 7, iv bx0, iv bx1, iv bx2, iv bx3, iv bx4, iv bx5, iv bx6, rv a1, iv (own_bom bx0.toInt8.toInt32 bx1.toInt8.toInt32 bx2.toInt8.toInt32), iv 0, .unset, .unset] [])
                refine own_st (fun _ k => XS.iload X51.here hx rfl (hb hby at_215) rfl k) ?_
                show own_Go p e below _ T51 (mkF m 217 #[iv p0, iv p1, iv p2, iv p3, iv p4, iv p5, iv 7, iv bx0, iv bx1, iv bx2, iv bx3, iv bx4, iv bx5, iv bx6, rv a1, iv (own_bom bx0.toInt8.toInt32 bx1.toInt8.toInt32 bx2.toInt8.toInt32), iv 0, .unset, .unset] [(.int 0)])
                refine own_st (fun _ k => XS.ifYes X51.here hx rfl (pc0 := 217) (pc' := 224) rfl (hb hby at_217) rfl (XT.i0_eq_t (by decide)) (by decide) (by decide) k) ?_
                show own_Go p e below _ T51 (mkF m 224 #[iv p0, iv p1, iv p2, iv p3, iv p4, iv p5, iv 7, iv bx0, iv bx1, iv bx2, iv bx3, iv bx4, iv bx5, iv bx6, rv a1, iv (own_bom bx0.toInt8.toInt32 bx1.toInt8.toInt32 bx2.toInt8.toInt32), iv 0, .unset, .unset] [])
                refine own_st (fun _ k => XT.iconstV X51.here hx rfl (0 : Int32) (hb hby at_224) (by decide) k) ?_
                show own_Go p e below _ T51 (mkF m 225 #[iv p0, iv p1, iv p2, iv p3, iv p4, iv p5, iv 7, iv bx0, iv bx1, iv bx2, iv bx3, iv bx4, iv bx5, iv bx6, rv a1, iv (own_bom bx0.toInt8.toInt32 bx1.toInt8.toInt32 bx2.toInt8.toInt32), iv 0, .unset, .unset] [(.int 0)])
                refine own_st (fun _ k => XS.istore X51.here hx rfl (hb hby at_225) rfl (l' := #[iv p0, iv p1, iv p2, iv p3, iv p4, iv p5, iv 7, iv bx0, iv bx1, iv bx2, iv bx3, iv bx4, iv bx5, iv bx6, rv a1, iv (own_bom bx0.toInt8.toInt32 bx1.toInt8.toInt32 bx2.toInt8.toInt32), iv 0, iv 0, .unset]) rfl k) ?_
                show own_Go p e below _ T51 (mkF m 227 #[iv p0, iv p1, iv p2, iv p3, iv p4, iv p5, iv 7, iv bx0, iv bx1, iv bx2, iv bx3, iv bx4, iv bx5, iv bx6, rv a1, iv (own_bom bx0.toInt8.toInt32 bx1.toInt8.toInt32 bx2.toInt8.toInt32), iv 0, iv 0, .unset] [])
                exact KE _ _ (by simp [own_bom, ok0, ok1, ok2, cm0, cm1, cm2])
            · refine own_st (fun _ k => XS.icmpYes X51.here hx rfl (pc0 := 198) (pc' := 212) rfl (hb hby at_198) rfl (XT.ii_ne_t cm1) (by decide) (by decide) k) ?_
              show own_Go p e below _ T51 (mkF m 212 #[iv p0, iv p1, iv p2, iv p3, iv p4, iv p5, iv 7, iv bx0, iv bx1, iv bx2, iv bx3, iv bx4, iv bx5, iv bx6, rv a1, iv (own_bom bx0.toInt8.toInt32 bx1.toInt8.toInt32 bx2.toInt8.toInt32), .unset, .unset, .unset] [])
              refine own_st (fun _ k => XT.iconstV X51.here hx rfl (0 : Int32) (hb hby at_212) (by decide) k) ?_
              show own_Go p e below _ T51 (mkF m 213 #[iv p0, iv p1, iv p2, iv p3, iv p4, iv p5, iv 7, iv bx0, iv bx1, iv bx2, iv bx3, iv bx4, iv bx5, iv bx6, rv a1, iv (own_bom bx0.toInt8.toInt32 bx1.toInt8.toInt32 bx2.toInt8.toInt32), .unset, .unset, .unset] [(.int 0)])
              refine own_st (fun _ k => XS.istore X51.here hx rfl (hb hby at_213) rfl (l' := #[iv p0, iv p1, iv p2, iv p3, iv p4, iv p5, iv 7, iv bx0, iv bx1, iv bx2, iv bx3, iv bx4, iv bx5, iv bx6, rv a1, iv (own_bom bx0.toInt8.toInt32 bx1.toInt8.toInt32 bx2.toInt8.toInt32), iv 0, .unset, .unset]) rfl k) ?_
              show own_Go p e below _ T51 (mkF m 215 #[iv p0, iv p1, iv p2, iv p3, iv p4, iv p5, iv 7, iv bx0, iv bx1, iv bx2, iv bx3, iv bx4, iv bx5, iv bx6, rv a1, iv (own_bom bx0.toInt8.toInt32 bx1.toInt8.toInt32 bx2.toInt8.toInt32), iv 0, .unset, .unset] [])
              refine own_st (fun _ k => XS.iload X51.here hx rfl (hb hby at_215) rfl k) ?_
              show own_Go p e below _ T51 (mkF m 217 #[iv p0, iv p1, iv p2, iv p3, iv p4, iv p5, iv 7, iv bx0, iv bx1, iv bx2, iv bx3, iv bx4, iv bx5, iv bx6, rv a1, iv (own_bom bx0.toInt8.toInt32 bx1.toInt8.toInt32 bx2.toInt8.toInt32), iv 0, .unset, .unset] [(.int 0)])
              refine own_st (fun _ k => XS.ifYes X51.here hx rfl (pc0 := 217) (pc' := 224) rfl (hb hby at_217) rfl (XT.i0_eq_t (by decide)) (by decide) (by decide) k) ?_
              show own_Go p e below _ T51 (mkF m 224 #[iv p0, iv p1, iv p2, iv p3, iv p4, iv p5, iv 7, iv bx0, iv bx1, iv bx2, iv bx3, iv bx4, iv bx5, iv bx6, rv a1, iv (own_bom bx0.toInt8.toInt32 bx1.toInt8.toInt32 bx2.toInt8.toInt32), iv 0, .unset, .unset] [])
              refine own_st (fun _ k => XT.iconstV X51.here hx rfl (0 : Int32) (hb hby at_224) (by decide) k) ?_
              show own_Go p e below _ T51 (mkF m 225 #[iv p0, iv p1, iv p2, iv p3, iv p4, iv p5, iv 7, iv bx0, iv bx1, iv bx2, iv bx3, iv bx4, iv bx5, iv bx6, rv a1, iv (own_bom bx0.toInt8.toInt32 bx1.toInt8.toInt32 bx2.toInt8.toInt32), iv 0, .unset, .unset] [(.int 0)])
              refine own_st (fun _ k => XS.istore X51.here hx rfl (hb hby at_225) rfl (l' := #[iv p0, iv p1, iv p2, iv p3, iv p4, iv p5, iv 7, iv bx0, iv bx1, iv bx2, iv bx3, iv bx4, iv bx5, iv bx6, rv a1, iv (own_bom bx0.toInt8.toInt32 bx1.toInt8.toInt32 bx2.toInt8.toInt32), iv 0, iv 0, .unset]) rfl k) ?_
              show own_Go p e below _ T51 (mkF m 227 #[iv p0, iv p1, iv p2, iv p3, iv p4, iv p5, iv 7, iv bx0, iv bx1, iv bx2, iv bx3, iv bx4, iv bx5, iv bx6, rv a1, iv (own_bom bx0.toInt8.toInt32 bx1.toInt8.toInt32 bx2.toInt8.toInt32), iv 0, iv 0, .unset] [])
              exact KE _ _ (by simp [own_bom, ok0, ok1, ok2, cm0, cm1])
          · refine own_st (fun _ k => XS.icmpYes X51.here hx rfl (pc0 := 191) (pc' := 212) rfl (hb hby at_191) rfl (XT.ii_ne_t cm0) (by decide) (by decide) k) ?_
            show own_Go p e below _ T51 (mkF m 212 #[iv p0, iv p1, iv p2, iv p3, iv p4, iv p5, iv 7, iv bx0, iv bx1, iv bx2, iv bx3, iv bx4, iv bx5, iv bx6, rv a1, iv (own_bom bx0.toInt8.toInt32 bx1.toInt8.toInt32 bx2.toInt8.toInt32), .unset, .unset, .unset] [])
            refine own_st (fun _ k => XT.iconstV X51.here hx rfl (0 : Int32) (hb hby at_212) (by decide) k) ?_
            show own_Go p e below _ T51 (mkF m 213 #[iv p0, iv p1, iv p2, iv p3, iv p4, iv p5, iv 7, iv bx0, iv bx1, iv bx2, iv bx3, iv bx4, iv bx5, iv bx6, rv a1, iv (own_bom bx0.toInt8.toInt32 bx1.toInt8.toInt32 bx2.toInt8.toInt32), .unset, .unset, .unset] [(.int 0)])
            refine own_st (fun _ k => XS.istore X51.here hx rfl (hb hby at_213) rfl (l' := #[iv p0, iv p1, iv p2, iv p3, iv p4, iv p5, iv 7, iv bx0, iv bx1, iv bx2, iv bx3, iv bx4, iv bx5, iv bx6, rv a1, iv (own_bom bx0.toInt8.toInt32 bx1.toInt8.toInt32 bx2.toInt8.toInt32), iv 0, .unset, .unset]) rfl k) ?_
            show own_Go p e below _ T51 (mkF m 215 #[iv p0, iv p1, iv p2, iv p3, iv p4, iv p5, iv 7, iv bx0, iv bx1, iv bx2, iv bx3, iv bx4, iv bx5, iv bx6, rv a1, iv (own_bom bx0.toInt8.toInt32 bx1.toInt8.toInt32 bx2.toInt8.toInt32), iv 0, .unset, .unset] [])
            refine own_st (fun _ k => XS.iload X51.here hx rfl (hb hby at_215) rfl k) ?_
            show own_Go p e below _ T51 (mkF m 217 #[iv p0, iv p1, iv p2, iv p3, iv p4, iv p5, iv 7, iv bx0, iv bx1, iv bx2, iv bx3, iv bx4, iv bx5, iv bx6, rv a1, iv (own_bom bx0.toInt8.toInt32 bx1.toInt8.toInt32 bx2.toInt8.toInt32), iv 0, .unset, .unset] [(.int 0)])
            refine own_st (fun _ k => XS.ifYes X51.here hx rfl (pc0 := 217) (pc' := 224) rfl (hb hby at_217) rfl (XT.i0_eq_t (by decide)) (by decide) (by decide) k) ?_
            show own_Go p e below _ T51 (mkF m 224 #[iv p0, iv p1, iv p2, iv p3, iv p4, iv p5, iv 7, iv bx0, iv bx1, iv bx2, iv bx3, iv bx4, iv bx5, iv bx6, rv a1, iv (own_bom bx0.toInt8.toInt32 bx1.toInt8.toInt32 bx2.toInt8.toInt32), iv 0, .unset, .unset] [])
            refine own_st (fun _ k => XT.iconstV X51.here hx rfl (0 : Int32) (hb hby at_224) (by decide) k) ?_
            show own_Go p e below _ T51 (mkF m 225 #[iv p0, iv p1, iv p2, iv p3, iv p4, iv p5, iv 7, iv bx0, iv bx1, iv bx2, iv bx3, iv bx4, iv bx5, iv bx6, rv a1, iv (own_bom bx0.toInt8.toInt32 bx1.toInt8.toInt32 bx2.toInt8.toInt32), iv 0, .unset, .unset] [(.int 0)])
            refine own_st (fun _ k => XS.istore X51.here hx rfl (hb hby at_225) rfl (l' := #[iv p0, iv p1, iv p2, iv p3, iv p4, iv p5, iv 7, iv bx0, iv bx1, iv bx2, iv bx3, iv bx4, iv bx5, iv bx6, rv a1, iv (own_bom bx0.toInt8.toInt32 bx1.toInt8.toInt32 bx2.toInt8.toInt32), iv 0, iv 0, .unset]) rfl k) ?_
            show own_Go p e below _ T51 (mkF m 227 #[iv p0, iv p1, iv p2, iv p3, iv p4, iv p5, iv 7, iv bx0, iv bx1, iv bx2, iv bx3, iv bx4, iv bx5, iv bx6, rv a1, iv (own_bom bx0.toInt8.toInt32 bx1.toInt8.toInt32 bx2.toInt8.toInt32), iv 0, iv 0, .unset] [])
            exact KE _ _ (by simp [own_bom, ok0, ok1, ok2, cm0])
      by_cases cs2 : (p5 &&& (4 : Int32)) = 0
      · refine own_st (fun _ k => XS.ifYes X0.here hx rfl (pc0 := 42) (pc' := 50) rfl (hb hby at_42) rfl (XT.i0_eq_t cs2) (by decide) (by decide) k) ?_
        show own_Go p e below _ s₁ (mkF m 50 #[iv p0, iv p1, iv p2, iv p3, iv p4, iv p5, iv i, iv bx0, iv bx1, .unset, .unset, .unset, .unset, .unset, .unset, .unset, .unset, .unset, .unset] [])
        refine own_st (fun _ k => XS.iloadN X0.here hx rfl (hb hby at_50) rfl k) ?_
        show own_Go p e below _ s₁ (mkF m 51 #[iv p0, iv p1, iv p2, iv p3, iv p4, iv p5, iv i, iv bx0, iv bx1, .unset, .unset, .unset, .unset, .unset, .unset, .unset, .unset, .unset, .unset] [(.int p3)])
        refine own_st (fun _ k => XT.i2b X0.here hx rfl (hb hby at_51) rfl k) ?_
        show own_Go p e below _ s₁ (mkF m 52 #[iv p0, iv p1, iv p2, iv p3, iv p4, iv p5, iv i, iv bx0, iv bx1, .unset, .unset, .unset, .unset, .unset, .unset, .unset, .unset, .unset, .unset] [(.int p3.toInt8.toInt32)])
        exact KJ2 _ (by first | decide | exact own_byte _)
      · refine own_st (fun _ k => XS.ifNo X0.here hx rfl (hb hby at_42) rfl (XT.i0_eq_f cs2) k) ?_
        show own_Go p e below _ s₁ (mkF m 45 #[iv p0, iv p1, iv p2, iv p3, iv p4, iv p5, iv i, iv bx0, iv bx1, .unset, .unset, .unset, .unset, .unset, .unset, .unset, .unset, .unset, .unset] [])
        refine own_st (fun _ k => XT.bipushV X0.here hx rfl (-65 : Int32) (hb hby at_45) (by decide) k) ?_
        show own_Go p e below _ s₁ (mkF m 47 #[iv p0, iv p1, iv p2, iv p3, iv p4, iv p5, iv i, iv bx0, iv bx1, .unset, .unset, .unset, .unset, .unset, .unset, .unset, .unset, .unset, .unset] [(.int (-65))])
        refine own_st (fun _ k => XS.goto X0.here hx rfl (pc0 := 47) (pc' := 52) rfl (hb hby at_47) (by decide) (by decide) k) ?_
        show own_Go p e below _ s₁ (mkF m 52 #[iv p0, iv p1, iv p2, iv p3, iv p4, iv p5, iv i, iv bx0, iv bx1, .unset, .unset, .unset, .unset, .unset, .unset, .unset, .unset, .unset, .unset] [(.int (-65))])
        exact KJ2 _ (by first | decide | exact own_byte _)
    by_cases cs1 : (p5 &&& (2 : Int32)) = 0
    · refine own_st (fun _ k => XS.ifYes X0.here hx rfl (pc0 := 26) (pc' := 34) rfl (hb hby at_26) rfl (XT.i0_eq_t cs1) (by decide) (by decide) k) ?_
      show own_Go p e below _ s₁ (mkF m 34 #[iv p0, iv p1, iv p2, iv p3, iv p4, iv p5, iv i, iv bx0, .unset, .unset, .unset, .unset, .unset, .unset, .unset, .unset, .unset, .unset, .unset] [])
      refine own_st (fun _ k => XS.iloadN X0.here hx rfl (hb hby at_34) rfl k) ?_
      show own_Go p e below _ s₁ (mkF m 35 #[iv p0, iv p1, iv p2, iv p3, iv p4, iv p5, iv i, iv bx0, .unset, .unset, .unset, .unset, .unset, .unset, .unset, .unset, .unset, .unset, .unset] [(.int p2)])
      refine own_st (fun _ k => XT.i2b X0.here hx rfl (hb hby at_35) rfl k) ?_
      show own_Go p e below _ s₁ (mkF m 36 #[iv p0, iv p1, iv p2, iv p3, iv p4, iv p5, iv i, iv bx0, .unset, .unset, .unset, .unset, .unset, .unset, .unset, .unset, .unset, .unset, .unset] [(.int p2.toInt8.toInt32)])
      exact KJ1 _ (by first | decide | exact own_byte _)
    · refine own_st (fun _ k => XS.ifNo X0.here hx rfl (hb hby at_26) rfl (XT.i0_eq_f cs1) k) ?_
      show own_Go p e below _ s₁ (mkF m 29 #[iv p0, iv p1, iv p2, iv p3, iv p4, iv p5, iv i, iv bx0, .unset, .unset, .unset, .unset, .unset, .unset, .unset, .unset, .unset, .unset, .unset] [])
      refine own_st (fun _ k => XT.bipushV X0.here hx rfl (-69 : Int32) (hb hby at_29) (by decide) k) ?_
      show own_Go p e below _ s₁ (mkF m 31 #[iv p0, iv p1, iv p2, iv p3, iv p4, iv p5, iv i, iv bx0, .unset, .unset, .unset, .unset, .unset, .unset, .unset, .unset, .unset, .unset, .unset] [(.int (-69))])
      refine own_st (fun _ k => XS.goto X0.here hx rfl (pc0 := 31) (pc' := 36) rfl (hb hby at_31) (by decide) (by decide) k) ?_
      show own_Go p e below _ s₁ (mkF m 36 #[iv p0, iv p1, iv p2, iv p3, iv p4, iv p5, iv i, iv bx0, .unset, .unset, .unset, .unset, .unset, .unset, .unset, .unset, .unset, .unset, .unset] [(.int (-69))])
      exact KJ1 _ (by first | decide | exact own_byte _)
  by_cases cs0 : (p5 &&& (1 : Int32)) = 0
  · refine own_st (fun _ k => XS.ifYes X0.here hx rfl (pc0 := 10) (pc' := 18) rfl (hb hby at_10) rfl (XT.i0_eq_t cs0) (by decide) (by decide) k) ?_
    show own_Go p e below _ s₁ (mkF m 18 #[iv p0, iv p1, iv p2, iv p3, iv p4, iv p5, iv i, .unset, .unset, .unset, .unset, .unset, .unset, .unset, .unset, .unset, .unset, .unset, .unset] [])
    refine own_st (fun _ k => XS.iloadN X0.here hx rfl (hb hby at_18) rfl k) ?_
    show own_Go p e below _ s₁ (mkF m 19 #[iv p0, iv p1, iv p2, iv p3, iv p4, iv p5, iv i, .unset, .unset, .unset, .unset, .unset, .unset, .unset, .unset, .unset, .unset, .unset, .unset] [(.int p1)])
    refine own_st (fun _ k => XT.i2b X0.here hx rfl (hb hby at_19) rfl k) ?_
    show own_Go p e below _ s₁ (mkF m 20 #[iv p0, iv p1, iv p2, iv p3, iv p4, iv p5, iv i, .unset, .unset, .unset, .unset, .unset, .unset, .unset, .unset, .unset, .unset, .unset, .unset] [(.int p1.toInt8.toInt32)])
    exact KJ0 _ (by first | decide | exact own_byte _)
  · refine own_st (fun _ k => XS.ifNo X0.here hx rfl (hb hby at_10) rfl (XT.i0_eq_f cs0) k) ?_
    show own_Go p e below _ s₁ (mkF m 13 #[iv p0, iv p1, iv p2, iv p3, iv p4, iv p5, iv i, .unset, .unset, .unset, .unset, .unset, .unset, .unset, .unset, .unset, .unset, .unset, .unset] [])
    refine own_st (fun _ k => XT.bipushV X0.here hx rfl (-17 : Int32) (hb hby at_13) (by decide) k) ?_
    show own_Go p e below _ s₁ (mkF m 15 #[iv p0, iv p1, iv p2, iv p3, iv p4, iv p5, iv i, .unset, .unset, .unset, .unset, .unset, .unset, .unset, .unset, .unset, .unset, .unset, .unset] [(.int (-17))])
    refine own_st (fun _ k => XS.goto X0.here hx rfl (pc0 := 15) (pc' := 20) rfl (hb hby at_15) (by decide) (by decide) k) ?_
    show own_Go p e below _ s₁ (mkF m 20 #[iv p0, iv p1, iv p2, iv p3, iv p4, iv p5, iv i, .unset, .unset, .unset, .unset, .unset, .unset, .unset, .unset, .unset, .unset, .unset, .unset] [(.int (-17))])
    exact KJ0 _ (by first | decide | exact own_byte _)
set_option maxRecDepth 65536 in
set_option maxHeartbeats 40000000 in
theorem comes_1 {Post : Tables → Env → Array Value → State → Outcome → State → Prop} (hpost : ∀ tb e args s v u, (limb_1_1.after args s (.returned v) u = true ∧ limb_1_2.after args s (.returned v) u = true ∧ True) → FrameEnd s (.returned v) u (Jvm.fieldLocs frame_1_writes args s ++ Jvm.arrayLocs frame_1_arrays args s ++ Jvm.staticLocs frame_1_statics s) 16 128 → Post tb e args s (.returned v) u) :
    ArmFor flags0 classFile x code maxLocals ret World_1 tables_1 room_1 Calls_1 rest_1 Pre_1 Post := by
  intro l hfl _ _ p e ha hc hk s m args below hf hA hF happ hP
  obtain ⟨hcalls, hrest, hpre⟩ := hP
  obtain ⟨-, -, -, hnamed, -, -, -, hat⟩ := (Spec.applies_iff hf).mp happ
  obtain ⟨hg, hn⟩ := and_e (Cond.before_iff.mp (show (Jvm.Cond.and given_1 narrow_1).before args s = true from hpre))
  obtain ⟨gl0, gr0⟩ := and_e hg
  obtain ⟨gl1, gr1⟩ := and_e gr0
  obtain ⟨gl2, gr2⟩ := and_e gr1
  obtain ⟨gl3, gr3⟩ := and_e gr2
  obtain ⟨gl4, gr4⟩ := and_e gr3
  obtain ⟨gl5, gr5⟩ := and_e gr4
  obtain ⟨w0, w1, w2, w3, w4, w5, rfl⟩ : ∃ w0 w1 w2 w3 w4 w5 : Value, args = #[w0, w1, w2, w3, w4, w5] := by
    have hs : args.size = 6 := by simpa [Cond.value, given_1] using gl0
    obtain ⟨L⟩ := args
    match L, hs with
    | [w0, w1, w2, w3, w4, w5], _ => exact ⟨w0, w1, w2, w3, w4, w5, rfl⟩
  have hw := fun d (hd : d ∈ tables_1) => atoms_spec (ws := Jvm.Cond.code x code maxLocals ret :: tables_1) hat d (List.mem_cons_of_mem _ hd)
  obtain ⟨nl0, nr0⟩ := and_e hn
  obtain ⟨nl1, nr1⟩ := and_e nr0
  obtain ⟨nl2, nr2⟩ := and_e nr1
  obtain ⟨nl3, nr3⟩ := and_e nr2
  have nn0 := nl0
  have nn1 := nl1
  have nn2 := nl2
  have nn3 := nl3
  have nn4 := nr3
  have hfit : Fit s := fun {y c} hc i hi => by
    obtain ⟨ha, rfl⟩ := Array.getElem?_eq_some_iff.mp hc
    have q := List.all_eq_true.mp ((Array.all_eq_true_iff_forall_mem.mp hF) _ (Array.getElem_mem ha)) i (List.mem_range.mpr hi)
    simpa [Array.getElem?_eq_getElem hi] using q
  obtain ⟨i0, ei0⟩ := is_v gl1
  obtain rfl : w0 = (.int i0) := Option.some.inj ei0
  obtain ⟨i1, ei1⟩ := is_v gl2
  obtain rfl : w1 = (.int i1) := Option.some.inj ei1
  obtain ⟨i2, ei2⟩ := is_v gl3
  obtain rfl : w2 = (.int i2) := Option.some.inj ei2
  obtain ⟨i3, ei3⟩ := is_v gl4
  obtain rfl : w3 = (.int i3) := Option.some.inj ei3
  obtain ⟨i4, ei4⟩ := is_v gl5
  obtain rfl : w4 = (.int i4) := Option.some.inj ei4
  obtain ⟨i5, ei5⟩ := is_v gr5
  obtain rfl : w5 = (.int i5) := Option.some.inj ei5
  obtain ⟨w_B, ev_B⟩ := arr_v nn0
  have S_B : Sta s s.heap "com/example/broken_to_found/brokentofound/watch/UrlList" "BYTE_ORDER_MARK" "[B" (.ref w_B) := Sta.start ev_B (Or.inr ⟨(hw _ (List.mem_of_getElem? (i := 3) rfl)), (hw _ (List.mem_of_getElem? (i := 6) rfl))⟩)
  obtain ⟨cB, AcB, szB, lnB⟩ := own_arr_start ev_B nn0 nn1
  have VB : Arv s s.heap w_B cB.cls .byte 3 [.int (-17), .int (-69), .int (-65)] (.int 0) := Arv.start hfit AcB szB lnB (by decide) rfl ⟨(elem_in (own_eq_int nn2) ev_B rfl AcB.1).2, (elem_in (own_eq_int nn3) ev_B rfl AcB.1).2, (elem_in (own_eq_int nn4) ev_B rfl AcB.1).2, trivial⟩
  obtain ⟨n, o, h1, h2, h3, _, L, rfl, ⟨rfl, N⟩, hq⟩ := own_rm_law l s _ hw tables_1 i0 i1 i2 i3 i4 i5 w_B cB.cls s.heap s.heap.size (Nat.le_refl _) (Old.start s) VB S_B p e ha hc hk s m _ below hf ((Spec.applies_iff_loose hf).mp happ).1 ⟨rfl, State.Warmed39.refl s, rfl⟩ trivial
  refine ⟨n, _, h1, h2, h3, hpost _ _ _ _ _ _ ⟨Cond.after_iff.mpr rfl, Cond.after_iff.mpr (eq_i res_at (Term.int_eval (1)) rfl), trivial⟩ ⟨hq.1, hq.2.1, (hq.2.2.sift fun y hy => Or.inr (N y hy)).mono (by decide) (by decide)⟩⟩
theorem main_1_1 : Claimed_1_1 := comes_1 fun _ _ _ _ _ _ h hF => ⟨h.1, hF⟩
theorem main_1_2 : Claimed_1_2 := comes_1 fun _ _ _ _ _ _ h hF => ⟨h.2.1, hF⟩
end Jvm.Pilot.@@N@@
namespace Jvm.Pilot.@@N@@
open Jvm Jvm.ClassFile Sem Op Lib Jvm.Free Jvm.Stand Jvm.Pilot.@@N@@.Jvm.D
/-! MADE BY PROGRAM (witnessworld.py) out of the Statement's table words and the real class files: 11 classes; the members and pool entries that the words name. The judged class is class 1, her method 1. -/
namespace start1
open Jvm.ClassFile
def u (s : String) : CpInfo := .utf8 (stringToUtf16 s)
/-- a pool by its gaps: so many unusable entries, then the entry; so many at the end -/
def gap : Nat → List CpInfo → List CpInfo
  | 0, r => r
  | n + 1, r => .unusable :: gap n r
def poolList (es : List (Nat × CpInfo)) (last : Nat) : List CpInfo := es.foldr (fun e r => gap e.1 (e.2 :: r)) (gap last [])
def pool (es : List (Nat × CpInfo)) (last : Nat) : Array CpInfo := ⟨poolList es last⟩
def fileOf (pool : Array CpInfo) (this : Nat) (attrs : Array Attribute := #[]) (ms : Array MethodInfo := #[]) (fl : Nat := 33) (sup : Nat := 0) (ifs : Array Nat := #[]) (fds : Array FieldInfo := #[]) : ClassFile where
  minorVersion := 0
  majorVersion := 65
  constantPool := pool
  accessFlags := fl
  thisClass := this
  superClass := sup
  interfaces := ifs
  fields := fds
  methods := ms
  attributes := attrs
def plain (name : String) (sup : Option ClassId) : Class where
  name := name
  kind := .ordinary
  loader := none
  accessFlags := 33
  super := sup
  interfaces := #[]
  cf := none
  fields := #[]
  methods := #[]
  instanceTypes := #[]
  staticTypes := #[]
  resolved := #[]
  callSites := []
  init := .initialized
  statics := none
  mirror := none

def pool0 : Array CpInfo := pool [(5, u "<init>"), (0, u "()V"), (1, .class_ 10), (1, u "java/lang/Object")] 113

def k0m0 : Method := { name := "<init>", desc := "()V", sig := { parameters := [], returnType := none }, accessFlags := 1, code := none }
/-- java/lang/Object -/
def k0 : Class := { plain "java/lang/Object" none with
  accessFlags := 33
  interfaces := #[]
  cf := some (fileOf pool0 8 #[] #[{ accessFlags := 1, nameIndex := 5, descriptorIndex := 6, attributes := #[] }] 33 0 #[] #[])
  fields := #[]
  methods := #[k0m0]
  instanceTypes := #[]
  staticTypes := #[]
  resolved := Array.replicate 124 none
  statics := none }

def pool1 : Array CpInfo := pool [(2, .class_ 4), (1, u "java/lang/Object"), (0, u "<init>"), (0, u "()V"), (0, .methodref 8 9), (0, .class_ 10), (0, .nameAndType 11 12), (0, u "com/example/broken_to_found/brokentofound/watch/UrlList"), (0, u "byteOrderMarkLength"), (0, u "([B)I"), (0, .class_ 14), (0, u "com/example/broken_to_found/brokentofound/watch/UrlListByteOrderMarkLengthPinLaw"), (2, u "law"), (0, u "(IIIIII)Z")] 5

def k1m0 : Method := { name := "<init>", desc := "()V", sig := { parameters := [], returnType := none }, accessFlags := 1, code := none }
def k1c1 : Code := { maxStack := 3, maxLocals := 19, code := code, exceptionTable := #[], attributes := #[] }
def k1m1 : Method := { name := "law", desc := "(IIIIII)Z", sig := { parameters := [.int, .int, .int, .int, .int, .int], returnType := some .boolean }, accessFlags := 9, code := some k1c1 }
/-- com/example/broken_to_found/brokentofound/watch/UrlListByteOrderMarkLengthPinLaw -/
def k1 : Class := { plain "com/example/broken_to_found/brokentofound/watch/UrlListByteOrderMarkLengthPinLaw" (some 0) with
  accessFlags := 49
  interfaces := #[]
  cf := some (fileOf pool1 13 #[] #[{ accessFlags := 1, nameIndex := 5, descriptorIndex := 6, attributes := #[] }, { accessFlags := 9, nameIndex := 17, descriptorIndex := 18, attributes := #[] }] 49 2 #[] #[])
  fields := #[]
  methods := #[k1m0, k1m1]
  instanceTypes := #[]
  staticTypes := #[]
  resolved := Array.replicate 24 none
  statics := none }

def pool2 : Array CpInfo := pool [(2, .class_ 4), (1, u "java/lang/Object"), (0, u "<init>"), (0, u "()V"), (7, .class_ 16), (1, u "com/example/broken_to_found/brokentofound/watch/UrlList"), (19, u "byteOrderMarkLength"), (0, u "([B)I"), (57, .fieldref 14 96), (0, .nameAndType 97 98), (0, u "BYTE_ORDER_MARK"), (0, u "[B"), (0, .methodref 100 101), (0, .class_ 102), (0, .nameAndType 103 104), (0, u "java/util/Arrays"), (0, u "equals"), (0, u "([BII[BII)Z")] 29

def k2m0 : Method := { name := "<init>", desc := "()V", sig := { parameters := [], returnType := none }, accessFlags := 2, code := none }
def k2c1 : Code := { maxStack := 6, maxLocals := 2, code := prog_7_method_4_code, exceptionTable := #[], attributes := #[] }
def k2m1 : Method := { name := "byteOrderMarkLength", desc := "([B)I", sig := { parameters := [(.array .byte)], returnType := some .int }, accessFlags := 8, code := some k2c1 }
/-- com/example/broken_to_found/brokentofound/watch/UrlList -/
def k2 : Class := { plain "com/example/broken_to_found/brokentofound/watch/UrlList" (some 0) with
  accessFlags := 33
  interfaces := #[]
  cf := some (fileOf pool2 14 #[] #[{ accessFlags := 2, nameIndex := 5, descriptorIndex := 6, attributes := #[] }, { accessFlags := 8, nameIndex := 36, descriptorIndex := 37, attributes := #[] }] 33 2 #[] #[{ accessFlags := 26, nameIndex := 97, descriptorIndex := 98, attributes := #[] }])
  fields := #[{ name := "BYTE_ORDER_MARK", type := (.array .byte), accessFlags := 26, slot := 0, constantValue := 0 }]
  methods := #[k2m0, k2m1]
  instanceTypes := #[]
  staticTypes := #[(.array .byte)]
  resolved := Array.replicate 134 none
  statics := some 0 }

def pool3 : Array CpInfo := pool [(2, .class_ 4), (1, u "java/lang/Object"), (0, u "<init>"), (0, u "()V"), (6, .methodref 14 15), (0, .class_ 16), (0, .nameAndType 17 18), (0, u "java/util/Arrays"), (0, u "rangeCheck"), (0, u "(III)V"), (55, .class_ 76), (1, u "java/util/Arrays$NaturalOrder"), (36, .class_ 115), (1, u "java/util/Arrays$LegacyMergeSort"), (1, u "Z"), (128, .class_ 248), (1, u "jdk/internal/util/ArraysSupport"), (0, u "mismatch"), (25, .methodref 246 276), (0, .nameAndType 249 277), (0, u "([BI[BII)I"), (20, u "equals"), (76, .class_ 376), (0, u "java/util/Arrays$ArrayList"), (68, u "$assertionsDisabled"), (269, u "MIN_ARRAY_SORT_GRAN"), (0, u "I"), (2, u "INSERTIONSORT_THRESHOLD"), (111, u "([BII[BII)Z"), (143, .class_ 976), (0, u "java/util/Arrays$ArrayItr")] 52

def k3m0 : Method := { name := "<init>", desc := "()V", sig := { parameters := [], returnType := none }, accessFlags := 2, code := none }
def k3c1 : Code := { maxStack := 4, maxLocals := 3, code := jdk_65_method_30_code, exceptionTable := #[], attributes := #[] }
def k3m1 : Method := { name := "rangeCheck", desc := "(III)V", sig := { parameters := [.int, .int, .int], returnType := none }, accessFlags := 8, code := some k3c1 }
def k3c2 : Code := { maxStack := 5, maxLocals := 8, code := jdk_65_method_90_code, exceptionTable := #[], attributes := #[] }
def k3m2 : Method := { name := "equals", desc := "([BII[BII)Z", sig := { parameters := [(.array .byte), .int, .int, (.array .byte), .int, .int], returnType := some .boolean }, accessFlags := 9, code := some k3c2 }
/-- java/util/Arrays -/
def k3 : Class := { plain "java/util/Arrays" (some 0) with
  accessFlags := 49
  interfaces := #[]
  cf := some (fileOf pool3 14 #[.nestMembers #[975, 375, 113, 74]] #[{ accessFlags := 2, nameIndex := 5, descriptorIndex := 6, attributes := #[] }, { accessFlags := 8, nameIndex := 17, descriptorIndex := 18, attributes := #[] }, { accessFlags := 9, nameIndex := 298, descriptorIndex := 831, attributes := #[] }] 49 2 #[] #[{ accessFlags := 26, nameIndex := 715, descriptorIndex := 716, attributes := #[] }, { accessFlags := 26, nameIndex := 719, descriptorIndex := 716, attributes := #[] }, { accessFlags := 4120, nameIndex := 445, descriptorIndex := 117, attributes := #[] }])
  fields := #[{ name := "MIN_ARRAY_SORT_GRAN", type := .int, accessFlags := 26, slot := 0, constantValue := 0 }, { name := "INSERTIONSORT_THRESHOLD", type := .int, accessFlags := 26, slot := 1, constantValue := 0 }, { name := "$assertionsDisabled", type := .boolean, accessFlags := 4120, slot := 2, constantValue := 0 }]
  methods := #[k3m0, k3m1, k3m2]
  instanceTypes := #[]
  staticTypes := #[.int, .int, .boolean]
  resolved := Array.replicate 1029 none
  statics := none }

def pool4 : Array CpInfo := pool [(9, u "<init>"), (6, .class_ 18), (1, u "java/lang/Object"), (0, u "()V"), (1, .class_ 23), (1, u "jdk/internal/util/ArraysSupport"), (0, u "LOG2_ARRAY_LONG_INDEX_SCALE"), (0, u "I"), (2, u "U"), (0, u "Ljdk/internal/misc/Unsafe;"), (8, u "BIG_ENDIAN"), (0, u "Z"), (8, u "LOG2_BYTE_BIT_SIZE"), (4, u "LOG2_ARRAY_INT_INDEX_SCALE"), (54, u "JLA"), (0, u "Ljdk/internal/access/JavaLangAccess;"), (11, u "LOG2_ARRAY_BOOLEAN_INDEX_SCALE"), (9, u "LOG2_ARRAY_BYTE_INDEX_SCALE"), (5, u "LOG2_ARRAY_CHAR_INDEX_SCALE"), (5, u "LOG2_ARRAY_SHORT_INDEX_SCALE"), (5, u "mismatch"), (12, u "LOG2_ARRAY_FLOAT_INDEX_SCALE"), (24, u "LOG2_ARRAY_DOUBLE_INDEX_SCALE"), (89, u "T_BOOLEAN"), (2, u "T_CHAR"), (1, u "T_FLOAT"), (1, u "T_DOUBLE"), (1, u "T_BYTE"), (1, u "T_SHORT"), (1, u "T_INT"), (1, u "T_LONG"), (1, u "SOFT_MAX_ARRAY_LENGTH"), (42, u "([BI[BII)I")] 40

def k4m0 : Method := { name := "<init>", desc := "()V", sig := { parameters := [], returnType := none }, accessFlags := 2, code := none }
def k4c1 : Code := { maxStack := 8, maxLocals := 8, code := jdk_48_method_14_code, exceptionTable := #[], attributes := #[] }
def k4m1 : Method := { name := "mismatch", desc := "([BI[BII)I", sig := { parameters := [(.array .byte), .int, (.array .byte), .int, .int], returnType := some .int }, accessFlags := 9, code := some k4c1 }
/-- jdk/internal/util/ArraysSupport -/
def k4 : Class := { plain "jdk/internal/util/ArraysSupport" (some 0) with
  accessFlags := 33
  interfaces := #[]
  cf := some (fileOf pool4 21 #[] #[{ accessFlags := 2, nameIndex := 9, descriptorIndex := 19, attributes := #[] }, { accessFlags := 9, nameIndex := 149, descriptorIndex := 337, attributes := #[] }] 33 16 #[] #[{ accessFlags := 24, nameIndex := 28, descriptorIndex := 29, attributes := #[] }, { accessFlags := 26, nameIndex := 38, descriptorIndex := 39, attributes := #[] }, { accessFlags := 25, nameIndex := 121, descriptorIndex := 25, attributes := #[] }, { accessFlags := 25, nameIndex := 131, descriptorIndex := 25, attributes := #[] }, { accessFlags := 25, nameIndex := 137, descriptorIndex := 25, attributes := #[] }, { accessFlags := 25, nameIndex := 143, descriptorIndex := 25, attributes := #[] }, { accessFlags := 25, nameIndex := 53, descriptorIndex := 25, attributes := #[] }, { accessFlags := 25, nameIndex := 24, descriptorIndex := 25, attributes := #[] }, { accessFlags := 25, nameIndex := 162, descriptorIndex := 25, attributes := #[] }, { accessFlags := 25, nameIndex := 187, descriptorIndex := 25, attributes := #[] }, { accessFlags := 26, nameIndex := 48, descriptorIndex := 25, attributes := #[] }, { accessFlags := 25, nameIndex := 277, descriptorIndex := 25, attributes := #[] }, { accessFlags := 25, nameIndex := 280, descriptorIndex := 25, attributes := #[] }, { accessFlags := 25, nameIndex := 282, descriptorIndex := 25, attributes := #[] }, { accessFlags := 25, nameIndex := 284, descriptorIndex := 25, attributes := #[] }, { accessFlags := 25, nameIndex := 286, descriptorIndex := 25, attributes := #[] }, { accessFlags := 25, nameIndex := 288, descriptorIndex := 25, attributes := #[] }, { accessFlags := 25, nameIndex := 290, descriptorIndex := 25, attributes := #[] }, { accessFlags := 25, nameIndex := 292, descriptorIndex := 25, attributes := #[] }, { accessFlags := 26, nameIndex := 108, descriptorIndex := 109, attributes := #[] }, { accessFlags := 25, nameIndex := 294, descriptorIndex := 25, attributes := #[] }])
  fields := #[{ name := "U", type := (.object "jdk/internal/misc/Unsafe"), accessFlags := 24, slot := 0, constantValue := 0 }, { name := "BIG_ENDIAN", type := .boolean, accessFlags := 26, slot := 1, constantValue := 0 }, { name := "LOG2_ARRAY_BOOLEAN_INDEX_SCALE", type := .int, accessFlags := 25, slot := 2, constantValue := 0 }, { name := "LOG2_ARRAY_BYTE_INDEX_SCALE", type := .int, accessFlags := 25, slot := 3, constantValue := 0 }, { name := "LOG2_ARRAY_CHAR_INDEX_SCALE", type := .int, accessFlags := 25, slot := 4, constantValue := 0 }, { name := "LOG2_ARRAY_SHORT_INDEX_SCALE", type := .int, accessFlags := 25, slot := 5, constantValue := 0 }, { name := "LOG2_ARRAY_INT_INDEX_SCALE", type := .int, accessFlags := 25, slot := 6, constantValue := 0 }, { name := "LOG2_ARRAY_LONG_INDEX_SCALE", type := .int, accessFlags := 25, slot := 7, constantValue := 0 }, { name := "LOG2_ARRAY_FLOAT_INDEX_SCALE", type := .int, accessFlags := 25, slot := 8, constantValue := 0 }, { name := "LOG2_ARRAY_DOUBLE_INDEX_SCALE", type := .int, accessFlags := 25, slot := 9, constantValue := 0 }, { name := "LOG2_BYTE_BIT_SIZE", type := .int, accessFlags := 26, slot := 10, constantValue := 0 }, { name := "T_BOOLEAN", type := .int, accessFlags := 25, slot := 11, constantValue := 0 }, { name := "T_CHAR", type := .int, accessFlags := 25, slot := 12, constantValue := 0 }, { name := "T_FLOAT", type := .int, accessFlags := 25, slot := 13, constantValue := 0 }, { name := "T_DOUBLE", type := .int, accessFlags := 25, slot := 14, constantValue := 0 }, { name := "T_BYTE", type := .int, accessFlags := 25, slot := 15, constantValue := 0 }, { name := "T_SHORT", type := .int, accessFlags := 25, slot := 16, constantValue := 0 }, { name := "T_INT", type := .int, accessFlags := 25, slot := 17, constantValue := 0 }, { name := "T_LONG", type := .int, accessFlags := 25, slot := 18, constantValue := 0 }, { name := "JLA", type := (.object "jdk/internal/access/JavaLangAccess"), accessFlags := 26, slot := 19, constantValue := 0 }, { name := "SOFT_MAX_ARRAY_LENGTH", type := .int, accessFlags := 25, slot := 20, constantValue := 0 }]
  methods := #[k4m0, k4m1]
  instanceTypes := #[]
  staticTypes := #[(.object "jdk/internal/misc/Unsafe"), .boolean, .int, .int, .int, .int, .int, .int, .int, .int, .int, .int, .int, .int, .int, .int, .int, .int, .int, (.object "jdk/internal/access/JavaLangAccess"), .int]
  resolved := Array.replicate 378 none
  statics := none }

def pool5 : Array CpInfo := pool [(1, u "java/lang/Cloneable"), (0, .class_ 1), (0, u "java/lang/Object"), (0, .class_ 3)] 3

/-- java/lang/Cloneable -/
def k5 : Class := { plain "java/lang/Cloneable" (some 0) with
  accessFlags := 1537
  interfaces := #[]
  cf := some (fileOf pool5 2 #[] #[] 1537 4 #[] #[])
  fields := #[]
  methods := #[]
  instanceTypes := #[]
  staticTypes := #[]
  resolved := Array.replicate 8 none
  statics := none }

def pool6 : Array CpInfo := pool [(1, u "java/io/Serializable"), (0, .class_ 1), (0, u "java/lang/Object"), (0, .class_ 3)] 3

/-- java/io/Serializable -/
def k6 : Class := { plain "java/io/Serializable" (some 0) with
  accessFlags := 1537
  interfaces := #[]
  cf := some (fileOf pool6 2 #[] #[] 1537 4 #[] #[])
  fields := #[]
  methods := #[]
  instanceTypes := #[]
  staticTypes := #[]
  resolved := Array.replicate 8 none
  statics := none }

/-- the primitive byte -/
def k7 : Class := { plain "byte" none with kind := .primitive 'B', accessFlags := 0x411 }
/-- [B -/
def k8 : Class := { plain "[B" (some 0) with kind := .array 7 .byte, interfaces := #[5, 6], accessFlags := 1041 }

/-- the primitive int -/
def k9 : Class := { plain "int" none with kind := .primitive 'I', accessFlags := 0x411 }
/-- [I -/
def k10 : Class := { plain "[I" (some 0) with kind := .array 9 .int, interfaces := #[5, 6], accessFlags := 1041 }

def heap : Heap := #[{ cls := 2, slots := #[.ref 1], vm := .statics 2 },
  { cls := 8, slots := #[.int (-17), .int (-69), .int (-65)], vm := .none }]
def classes : Array Class := #[k0, k1, k2, k3, k4, k5, k6, k7, k8, k9, k10]
def interned : List (Array UInt16 × Addr) := []
def slotsUsed : Nat := 4
def theMethod : MethodId := ⟨1, 1⟩
def args0 : Array Value := #[.int 5, .int 1, .int 2, .int 3, .int 4, .int 7]
def aboutOver (below : List Frame) : State where
  vm := { classes := classes, interned := interned.toArray }
  heap := heap
  slotsUsed := slotsUsed
  threads := #[{ frames := .invoking theMethod args0 :: below }]
def below0 : List Frame := [.native { method := ⟨0, 0⟩, args := #[] }]
def about1 : State := aboutOver below0
def p0 : Program := .bare "" "" ""
def e0 : Env := launch0.env 0 0 0
theorem w_frames : about1.frames = Frame.invoking theMethod args0 :: below0 := rfl
set_option maxRecDepth 65536 in
theorem w_args : argsFit about1.vm theMethod args0 = true := by decide +kernel
set_option maxRecDepth 65536 in
theorem w_heap : heapFits about1 = true := by decide +kernel
set_option maxRecDepth 65536 in
theorem w_runnable : about1.curStatus? = some .runnable := by decide +kernel
set_option maxRecDepth 65536 in
theorem w_alone : about1.alone = true := by decide +kernel
set_option maxRecDepth 65536 in
theorem w_named : about1.methodNamed? x = some theMethod := by decide +kernel
set_option maxRecDepth 65536 in
theorem w_hears : about1.hears theMethod below0 = true := by decide +kernel
set_option maxRecDepth 65536 in
theorem w_ripe : about1.ripe theMethod args0 below0 = true := by decide +kernel
theorem w_running : about1.status = .running := rfl
set_option maxRecDepth 65536 in
theorem w_room : about1.hasRoom e0.platform room_1 = true :=
  launch0.hasRoom_least _ room_1 (by decide +kernel) (by decide +kernel) (by decide +kernel) (by decide +kernel) (by decide +kernel) (by decide +kernel)
theorem allAtoms_all (ts : List Jvm.Cond) (a : Array Jvm.Value) (st : Jvm.State) : (allAtoms ts).before a st = ts.all (fun c => c.before a st) := by
  induction ts with
  | nil => rfl
  | cons c t ih =>
    show (Jvm.Cond.and c (allAtoms t)).before a st = _
    rw [Jvm.Cond.before_and, ih, List.all_cons]
def words1 : List Jvm.Cond := Jvm.Cond.code x code maxLocals ret :: tables_1
/-- a 'code' word, met by the world's own term for the bytes: nothing is compared byte by byte -/
theorem code_word {y : MethodName} {bytes : ByteArray} {mx : Nat} {rt : Option FieldType} {a : Array Value} {s : State} {m : MethodId} {meth : Method} {c : Code} (h1 : s.methodNamed? y = some m) (h2 : s.vm.method? m = some meth) (h3 : meth.code = some c) (h4 : c.code = bytes)
    (h5 : (c.maxLocals == mx && c.exceptionTable.isEmpty && decide (c.maxStack ≤ mostOperands) && decide (meth.sig.returnType = rt) && !meth.locks && decide (parseMethodDescriptor y.desc = some meth.sig)) = true) : (Jvm.Cond.code y bytes mx rt).before a s = true := by
  simp only [Bool.and_eq_true, beq_iff_eq, Bool.not_eq_true', decide_eq_true_eq] at h5
  obtain ⟨⟨⟨⟨⟨g1, g2⟩, g3⟩, g4⟩, g5⟩, g6⟩ := h5
  simp [Cond.before, Cond.holds, Cond.value, h1, h2, h3, h4, g1, g2, g3, g4, g5, g6]
def isCode : Jvm.Cond → Bool
  | .code _ _ _ _ => true
  | _ => false
theorem all_split {L : List Jvm.Cond} {P : Jvm.Cond → Bool} (h1 : L.all (fun c => isCode c || P c) = true) (h2 : ∀ c ∈ L.filter isCode, P c = true) : L.all P = true := by
  refine List.all_eq_true.mpr fun c hc => ?_
  have h := List.all_eq_true.mp h1 c hc
  rcases Bool.eq_false_or_eq_true (isCode c) with hi | hi
  · exact h2 c (List.mem_filter.mpr ⟨hc, hi⟩)
  · simpa [hi] using h
set_option maxRecDepth 65536 in
theorem w_c0 : (Jvm.Cond.code x code maxLocals ret).before args0 about1 = true := code_word (m := ⟨1, 1⟩) (meth := k1m1) (c := k1c1) (by decide +kernel) rfl rfl rfl (by decide +kernel)
set_option maxRecDepth 65536 in
theorem w_c1 : (Jvm.Cond.code ({ cls := "com/example/broken_to_found/brokentofound/watch/UrlList", name := "byteOrderMarkLength", desc := "([B)I" } : Jvm.MethodName) prog_7_method_4_code (2 : Nat) (Option.some Jvm.ClassFile.FieldType.int)).before args0 about1 = true := code_word (m := ⟨2, 1⟩) (meth := k2m1) (c := k2c1) (by decide +kernel) rfl rfl rfl (by decide +kernel)
set_option maxRecDepth 65536 in
theorem w_c2 : (Jvm.Cond.code ({ cls := "java/util/Arrays", name := "equals", desc := "([BII[BII)Z" } : Jvm.MethodName) jdk_65_method_90_code (8 : Nat) (Option.some Jvm.ClassFile.FieldType.boolean)).before args0 about1 = true := code_word (m := ⟨3, 2⟩) (meth := k3m2) (c := k3c2) (by decide +kernel) rfl rfl rfl (by decide +kernel)
set_option maxRecDepth 65536 in
theorem w_c3 : (Jvm.Cond.code ({ cls := "java/util/Arrays", name := "rangeCheck", desc := "(III)V" } : Jvm.MethodName) jdk_65_method_30_code (3 : Nat) (Option.none : Option Jvm.ClassFile.FieldType)).before args0 about1 = true := code_word (m := ⟨3, 1⟩) (meth := k3m1) (c := k3c1) (by decide +kernel) rfl rfl rfl (by decide +kernel)
set_option maxRecDepth 65536 in
theorem w_c4 : (Jvm.Cond.code ({ cls := "jdk/internal/util/ArraysSupport", name := "mismatch", desc := "([BI[BII)I" } : Jvm.MethodName) jdk_48_method_14_code (8 : Nat) (Option.some Jvm.ClassFile.FieldType.int)).before args0 about1 = true := code_word (m := ⟨4, 1⟩) (meth := k4m1) (c := k4c1) (by decide +kernel) rfl rfl rfl (by decide +kernel)
def codes1 : List Jvm.Cond := [Jvm.Cond.code x code maxLocals ret, Jvm.Cond.code ({ cls := "com/example/broken_to_found/brokentofound/watch/UrlList", name := "byteOrderMarkLength", desc := "([B)I" } : Jvm.MethodName) prog_7_method_4_code (2 : Nat) (Option.some Jvm.ClassFile.FieldType.int), Jvm.Cond.code ({ cls := "java/util/Arrays", name := "equals", desc := "([BII[BII)Z" } : Jvm.MethodName) jdk_65_method_90_code (8 : Nat) (Option.some Jvm.ClassFile.FieldType.boolean), Jvm.Cond.code ({ cls := "java/util/Arrays", name := "rangeCheck", desc := "(III)V" } : Jvm.MethodName) jdk_65_method_30_code (3 : Nat) (Option.none : Option Jvm.ClassFile.FieldType), Jvm.Cond.code ({ cls := "jdk/internal/util/ArraysSupport", name := "mismatch", desc := "([BI[BII)I" } : Jvm.MethodName) jdk_48_method_14_code (8 : Nat) (Option.some Jvm.ClassFile.FieldType.int)]
set_option maxRecDepth 65536 in
theorem codes_eq : words1.filter isCode = codes1 := rfl
theorem w_codes : ∀ c ∈ words1.filter isCode, c.before args0 about1 = true := by
  rw [codes_eq]
  intro c hc
  simp only [codes1, List.mem_cons, List.not_mem_nil, or_false] at hc
  rcases hc with rfl | rfl | rfl | rfl | rfl
  · exact w_c0
  · exact w_c1
  · exact w_c2
  · exact w_c3
  · exact w_c4
set_option maxRecDepth 65536 in
theorem w_t1 : words1.all (fun c => isCode c || c.before args0 about1) = true := by decide +kernel
theorem w_tables : (allAtoms (Jvm.Cond.code x code maxLocals ret :: tables_1)).before args0 about1 = true := by
  rw [allAtoms_all]
  show words1.all (fun c => c.before args0 about1) = true
  refine all_split ?_ w_codes
  rw [w_t1]
set_option maxRecDepth 65536 in
theorem w_case : (Jvm.Cond.and given_1 narrow_1).before args0 about1 = true := by decide +kernel
theorem w_applies : (headSpec (Jvm.Cond.code x code maxLocals ret :: tables_1) room_1).applies x e0.platform about1 = true :=
  (Spec.applies_iff w_frames).mpr ⟨w_running, w_runnable, w_alone, w_named, w_hears, w_ripe, w_room, w_tables⟩
theorem atStart : AtStart classFile x code maxLocals ret World_1 tables_1 room_1 Calls_1 rest_1 Pre_1 launch0 p0 e0 about1 theMethod args0 below0 :=
  ⟨lists_1, trivial, launch0.admits_env _ _ _, launch0.least_env, fairChoices_fair.cas, fairChoices_fair.clock, w_frames, w_args, w_heap, w_applies, trivial, trivial, w_case⟩
end start1
theorem witness_1 : WitnessClaimed_1 := ⟨start1.p0, start1.e0, start1.about1, start1.theMethod, start1.args0, start1.below0, start1.atStart⟩
end Jvm.Pilot.@@N@@
