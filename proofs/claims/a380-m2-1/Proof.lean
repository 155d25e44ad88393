import JvmDerived
import JvmDerived.Pilot.@@N@@Statement
import JvmDerived.Pilot.@@N@@Code
set_option linter.unusedVariables false
set_option linter.unusedSimpArgs false
namespace Jvm.Pilot.@@N@@
open Jvm Jvm.ClassFile Sem Op Lib Jvm.Free Jvm.Stand Jvm.LawKit Jvm.RoadKit Bundle Jvm.Pilot.@@N@@.Jvm.D
section Own
variable {p : Program} {l : Launch} {e : Env} {R : Room} {s : State} {m : MethodId} {args : Array Value} {below : List Frame} {meth : Method} {c : Code} {T : State} {locs : List Loc} {cells slots : Nat} {Z : State} {h h' : Heap}
def Run (p : Program) (e : Env) (below : List Frame) (s : State) (C N : Nat) (Q : Option Value → Heap → List Loc → Prop) (S : State) : Prop :=
  ∃ s₂ o, Steps p.tables e below S s₂ ∧ s₂.status = .running ∧ Ended s₂ below o ∧ ∃ v L, o = .returned v ∧ Q v s₂.heap L ∧ FrameEnd s o s₂ L C N
variable {C N : Nat} {Q : Option Value → Heap → List Loc → Prop} {S S' : State}
theorem Run.go (k : ∀ t, Steps p.tables e below S' t → Steps p.tables e below S t) (r : Run p e below s C N Q S') : Run p e below s C N Q S := by
  obtain ⟨s₂, o, h1, r⟩ := r
  exact ⟨s₂, o, k _ h1, r⟩
theorem Run.tr (k : Steps p.tables e below S S') (r : Run p e below s C N Q S') : Run p e below s C N Q S := by
  obtain ⟨s₂, o, h1, r⟩ := r
  exact ⟨s₂, o, k.trans h1, r⟩
theorem Run.retI (X : Stand p l e R s m args below meth c T locs cells slots) (hx : p.tables.exec = Jvm.exec) {pc : Nat} {Ls : Array Slot} {z : Int32} {rest : List Value} (hret : meth.sig.returnType = some .int) (hlk : meth.locks = false) (hd : decode c.code pc = .ok (.ireturn, 1)) (hc : cells ≤ C) (hn : slots ≤ N)
    (hQ : Q (some (.int z)) T.heap locs) : Run p e below s C N Q (T.setTop (mkF m pc Ls (.int z :: rest))) := by
  obtain ⟨fs, hr, hrun, hended, hW, hsame⟩ := X.leave (v := some (.int z)) (fun q => by rw [hret] at q; cases q)
  refine ⟨_, _, ?_, hrun, hended, _, _, rfl, hQ, ⟨_, rfl⟩, hW, hsame.mono hc hn⟩
  have hm' : T.vm.method? m = some meth := X.method'
  have hn : narrow .int (.int z) = .int z := rfl
  show Steps p.tables e below (T.setTop { method := m, pc := pc, locals := Ls, stack := _ :: rest, locked := none }) _
  jvm_step X.here [X.here.top, hx, hd, hm', hret, hn]
  first | (intro acts; rw [hr _ acts rfl rfl rfl]) | rw [hr _ _ rfl rfl rfl]
  exact Steps.refl _
theorem Run.retN (X : Stand p l e R s m args below meth c T locs cells slots) (hx : p.tables.exec = Jvm.exec) {pc : Nat} {Ls : Array Slot} {z y : Int32} {t : FieldType} {rest : List Value} (hret : meth.sig.returnType = some t) (ht : t = .boolean ∨ t = .byte ∨ t = .char ∨ t = .short) (hy : nar t z = y) (hlk : meth.locks = false) (hd : decode c.code pc = .ok (.ireturn, 1)) (hc : cells ≤ C) (hn : slots ≤ N)
    (hQ : Q (some (.int y)) T.heap locs) : Run p e below s C N Q (T.setTop (mkF m pc Ls (.int z :: rest))) := by
  subst hy
  obtain ⟨fs, hr, hrun, hended, hW, hsame⟩ := X.leave (v := some (.int (nar t z))) (fun q => by rw [hret] at q; cases q)
  exact ⟨_, _, Jvm.RoadKit.retN X hx hret ht hd hr, hrun, hended, _, _, rfl, hQ, ⟨_, rfl⟩, hW, hsame.mono hc hn⟩
theorem Run.retJ (X : Stand p l e R s m args below meth c T locs cells slots) (hx : p.tables.exec = Jvm.exec) {pc : Nat} {Ls : Array Slot} {z : Int64} {rest : List Value} (hret : meth.sig.returnType = some .long) (hlk : meth.locks = false) (hd : decode c.code pc = .ok (.lreturn, 1)) (hc : cells ≤ C) (hn : slots ≤ N)
    (hQ : Q (some (.long z)) T.heap locs) : Run p e below s C N Q (T.setTop (mkF m pc Ls (.long z :: rest))) := by
  obtain ⟨fs, hr, hrun, hended, hW, hsame⟩ := X.leave (v := some (.long z)) (fun q => by rw [hret] at q; cases q)
  refine ⟨_, _, ?_, hrun, hended, _, _, rfl, hQ, ⟨_, rfl⟩, hW, hsame.mono hc hn⟩
  have hm' : T.vm.method? m = some meth := X.method'
  show Steps p.tables e below (T.setTop { method := m, pc := pc, locals := Ls, stack := _ :: rest, locked := none }) _
  jvm_step X.here [X.here.top, hx, hd, hm', hret, narrow]
  first | (intro acts; rw [hr _ acts rfl rfl rfl]) | rw [hr _ _ rfl rfl rfl]
  exact Steps.refl _
theorem Run.retA (X : Stand p l e R s m args below meth c T locs cells slots) (hx : p.tables.exec = Jvm.exec) {pc : Nat} {Ls : Array Slot} {w : Value} {t : FieldType} {rest : List Value} (hw : w.isRef = true) (hret : meth.sig.returnType = some t) (ht : t.isReference = true) (hlk : meth.locks = false) (hd : decode c.code pc = .ok (.areturn, 1)) (hc : cells ≤ C) (hn : slots ≤ N)
    (hQ : Q (some w) T.heap locs) : Run p e below s C N Q (T.setTop (mkF m pc Ls (w :: rest))) := by
  obtain ⟨fs, hr, hrun, hended, hW, hsame⟩ := X.leave (v := some w) (fun q => by rw [hret] at q; cases q)
  refine ⟨_, _, ?_, hrun, hended, _, _, rfl, hQ, ⟨_, rfl⟩, hW, hsame.mono hc hn⟩
  have hm' : T.vm.method? m = some meth := X.method'
  show Steps p.tables e below (T.setTop { method := m, pc := pc, locals := Ls, stack := _ :: rest, locked := none }) _
  rcases ref_cases hw with rfl | ⟨a, rfl⟩
  all_goals
    jvm_step X.here [X.here.top, hx, hd, hm', hret, Value.isRef, ht]
    first | (intro acts; rw [hr _ acts rfl rfl rfl]) | rw [hr _ _ rfl rfl rfl]
    exact Steps.refl _
theorem Run.ret0 (X : Stand p l e R s m args below meth c T locs cells slots) (hx : p.tables.exec = Jvm.exec) {pc : Nat} {Ls : Array Slot} (hret : meth.sig.returnType = none) (hlk : meth.locks = false) (hd : decode c.code pc = .ok (.return_, 1)) (hc : cells ≤ C) (hn : slots ≤ N)
    (hQ : Q none T.heap locs) : Run p e below s C N Q (T.setTop (mkF m pc Ls [])) := by
  obtain ⟨fs, hr, hrun, hended, hW, hsame⟩ := X.leave (v := none) (fun _ => rfl)
  exact ⟨_, _, X.returnOut hx hret hd hr, hrun, hended, _, _, rfl, hQ, ⟨_, rfl⟩, hW, hsame.mono hc hn⟩
theorem Stand_gen {k : Nat} (X : Stand p l e R s m args below meth c T locs cells slots) (F : Fr k locs) : ∃ L, Stand p l e R s m args below meth c T L cells slots ∧ Fr k L := ⟨_, X, F⟩
theorem Sta.keep {C n d : String} {w : Value} {ws : List Addr} (F : Sta Z h C n d w) (K : Keep h h' ws) (q : ∀ x ∈ ws, ∀ c : Cell, h[x]? = some c → c.vm.isStatics = false) : Sta Z h' C n d w := by
  obtain ⟨cf, i, k, f, st, cell, h1, h2, h3, h4, h5, h6, h7⟩ := F
  refine ⟨cf, i, k, f, st, cell, h1, h2, h3, h4, K.2.1 st cell h5 (fun hm => ?_), h6, h7⟩
  rw [q st hm cell h5] at h6; cases h6
theorem Exa.nst {a : Addr} {C : String} (F : Exa Z h a C) : ∀ c : Cell, h[a]? = some c → c.vm.isStatics = false := fun c q => by
  obtain ⟨cell, k, h1, -, -, h4, -⟩ := F
  cases h1.symm.trans q; exact h4
/-- an array of n elements, the i-th is f i -/
def Ary (Z : State) (h : Heap) (a : Addr) (ty : FieldType) (n : Nat) (f : Nat → Value) : Prop := ∃ c : Cell, Arr Z h a c ty ∧ c.slots.size = n ∧ ∀ i, i < n → c.slots[i]? = some (f i)
variable {a b : Addr} {ty : FieldType} {n sl : Nat} {f : Nat → Value} {v : Value} {ws : List Addr}
theorem Ary.lt (F : Ary Z h a ty n f) : a < h.size := by obtain ⟨c, A, -⟩ := F; exact A.lt
theorem Ary.ext (F : Ary Z h a ty n f) (E : Ext h h') : Ary Z h' a ty n f := by obtain ⟨c, A, r⟩ := F; exact ⟨c, A.ext E, r⟩
theorem Ary.other (F : Ary Z h b ty n f) (W : Wr h h' a sl v) (q : b ≠ a) : Ary Z h' b ty n f := by obtain ⟨c, A, r⟩ := F; exact ⟨c, A.other W q, r⟩
theorem Ary.keep (F : Ary Z h a ty n f) (K : Keep h h' ws) (q : a ∉ ws) : Ary Z h' a ty n f := by obtain ⟨c, A, r⟩ := F; exact ⟨c, ⟨K.2.1 a c A.1 q, A.2⟩, r⟩
theorem Ary.ne {C : String} {a0 : Array Value} {k : Nat} (F : Ary Z h a ty n f) (G : Exa Z h b C) (wi : (Jvm.Cond.instantiable C k).before a0 Z = true) : a ≠ b := by
  obtain ⟨c, A, r⟩ := F; exact (ne_arr G wi A).symm
theorem Ary.same (F : Ary Z h a ty n f) (W : Wr h h' a sl v) : Ary Z h' a ty n (fun i => if i = sl then v else f i) := by
  obtain ⟨c, A, hs, hf⟩ := F
  obtain ⟨c1, q1, q2, q3, q4⟩ := W
  obtain rfl := Option.some.inj (q1.symm.trans A.1)
  refine ⟨c1.setSlot sl v, A.same ⟨c1, q1, q2, q3, q4⟩, by simp [Cell.setSlot, hs], fun i hi => ?_⟩
  by_cases e : i = sl
  · subst e; simp [Cell.setSlot, q3]
  · simp only [if_neg e]; rw [← hf i hi]; exact Array.getElem?_setIfInBounds_ne (Ne.symm e)
theorem Ary.nst (F : Ary Z h a ty n f) : ∀ c : Cell, h[a]? = some c → c.vm.isStatics = false := fun c q => by
  obtain ⟨cl, A, -⟩ := F
  cases A.1.symm.trans q; exact A.plain
theorem Ary.congr {g : Nat → Value} (F : Ary Z h a ty n f) (q : ∀ i, i < n → f i = g i) : Ary Z h a ty n g := by
  obtain ⟨c, A, hs, hf⟩ := F; exact ⟨c, A, hs, fun i hi => by rw [hf i hi, q i hi]⟩
theorem Ary.new {k : ClassId} {z : Int32} (A : Arr Z h a (newA k ty z) ty) (q : z.toNatClampNeg = n) : Ary Z h a ty n (fun _ => defaultValue ty) := by
  subst q
  exact ⟨_, A, sz_new _ _ _, fun i hi => by simp [newA, hi]⟩
theorem out_of {j : Int32} {c : Cell} (hs : c.slots.size = n) (h0 : ¬ j < 0) (hj : j.toNatClampNeg < n) : ¬ (j < 0 ∨ c.slots.size ≤ j.toNatClampNeg) := by
  rw [hs]; exact fun q => q.elim h0 (fun q => absurd hj (Nat.not_lt.mpr q))
/-- an array of references: besides, its class is that of arrays over C -/
def ArR (Z : State) (h : Heap) (a : Addr) (C : String) (n : Nat) (f : Nat → Value) : Prop := ∃ c : Cell, Arr Z h a c (.object C) ∧ Ovr Z c.cls C ∧ c.slots.size = n ∧ ∀ i, i < n → c.slots[i]? = some (f i)
variable {K : String}
theorem ArR.lt (F : ArR Z h a K n f) : a < h.size := by obtain ⟨c, A, -⟩ := F; exact A.lt
theorem ArR.ext (F : ArR Z h a K n f) (E : Ext h h') : ArR Z h' a K n f := by obtain ⟨c, A, r⟩ := F; exact ⟨c, A.ext E, r⟩
theorem ArR.other (F : ArR Z h b K n f) (W : Wr h h' a sl v) (q : b ≠ a) : ArR Z h' b K n f := by obtain ⟨c, A, r⟩ := F; exact ⟨c, A.other W q, r⟩
theorem ArR.keep (F : ArR Z h a K n f) (k : Keep h h' ws) (q : a ∉ ws) : ArR Z h' a K n f := by obtain ⟨c, A, r⟩ := F; exact ⟨c, ⟨k.2.1 a c A.1 q, A.2⟩, r⟩
theorem ArR.ary (F : ArR Z h a K n f) : Ary Z h a (.object K) n f := by obtain ⟨c, A, -, r⟩ := F; exact ⟨c, A, r⟩
theorem ArR.same (F : ArR Z h a K n f) (W : Wr h h' a sl v) : ArR Z h' a K n (fun i => if i = sl then v else f i) := by
  obtain ⟨c, A, o, hs, hf⟩ := F
  obtain ⟨c1, q1, q2, q3, q4⟩ := W
  obtain rfl := Option.some.inj (q1.symm.trans A.1)
  refine ⟨c1.setSlot sl v, A.same ⟨c1, q1, q2, q3, q4⟩, o, by simp [Cell.setSlot, hs], fun i hi => ?_⟩
  by_cases e : i = sl
  · subst e; simp [Cell.setSlot, q3]
  · simp only [if_neg e]; rw [← hf i hi]; exact Array.getElem?_setIfInBounds_ne (Ne.symm e)
theorem ArR.new {k : ClassId} {z : Int32} (A : Arr Z h a (newA k (.object K) z) (.object K)) (O : Ovr Z k K) (q : z.toNatClampNeg = n) : ArR Z h a K n (fun _ => .null) := by
  subst q
  exact ⟨_, A, O, sz_new _ _ _, fun i hi => by simp [newA, hi]; rfl⟩
section Arrays
theorem ary_iget (X : Stand p l e R s m args below meth c T locs cells slots) (hx : p.tables.exec = Jvm.exec) (hZ : Z.Warmed39 s.vm) (eT : T.heap = h) (A : Ary Z h a .int n f) {j : Int32} (h0 : ¬ j < 0) (hj : j.toNatClampNeg < n) {g : JFrame} (hg : g.method = m) {rest : List Value} (hs : g.stack = .int j :: .ref a :: rest) (hd : decode c.code g.pc = .ok (.iaload, 1)) {v : Value} (hv : f j.toNatClampNeg = v) (target : State)
    (k : Steps p.tables e below (T.setTop { g with pc := g.pc + 1, stack := v :: rest }) target) : Steps p.tables e below (T.setTop g) target := by
  subst hv; obtain ⟨cl, A, q, F⟩ := A
  exact X.iaload hx (by rw [eT]; exact A.1) (State.isArrayOf_alike hZ.alike A.2.1) A.2.2 (out_of q h0 hj) (F _ hj) hg hs hd target k
theorem ary_lget (X : Stand p l e R s m args below meth c T locs cells slots) (hx : p.tables.exec = Jvm.exec) (hZ : Z.Warmed39 s.vm) (eT : T.heap = h) (A : Ary Z h a .long n f) {j : Int32} (h0 : ¬ j < 0) (hj : j.toNatClampNeg < n) {g : JFrame} (hg : g.method = m) {rest : List Value} (hs : g.stack = .int j :: .ref a :: rest) (hd : decode c.code g.pc = .ok (.laload, 1)) {v : Value} (hv : f j.toNatClampNeg = v) (target : State)
    (k : Steps p.tables e below (T.setTop { g with pc := g.pc + 1, stack := v :: rest }) target) : Steps p.tables e below (T.setTop g) target := by
  subst hv; obtain ⟨cl, A, q, F⟩ := A
  exact X.laload hx (by rw [eT]; exact A.1) (State.isArrayOf_alike hZ.alike A.2.1) A.2.2 (out_of q h0 hj) (F _ hj) hg hs hd target k
theorem ary_bget (X : Stand p l e R s m args below meth c T locs cells slots) (hx : p.tables.exec = Jvm.exec) (hZ : Z.Warmed39 s.vm) (eT : T.heap = h) (A : Ary Z h a .byte n f) {j : Int32} (h0 : ¬ j < 0) (hj : j.toNatClampNeg < n) {g : JFrame} (hg : g.method = m) {rest : List Value} (hs : g.stack = .int j :: .ref a :: rest) (hd : decode c.code g.pc = .ok (.baload, 1)) {v : Value} (hv : f j.toNatClampNeg = v) (target : State)
    (k : Steps p.tables e below (T.setTop { g with pc := g.pc + 1, stack := v :: rest }) target) : Steps p.tables e below (T.setTop g) target := by
  subst hv; obtain ⟨cl, A, q, F⟩ := A
  exact X.baloadBytes hx (by rw [eT]; exact A.1) (State.isArrayOf_alike hZ.alike A.2.1) A.2.2 (out_of q h0 hj) (F _ hj) hg hs hd target k
theorem ary_cget (X : Stand p l e R s m args below meth c T locs cells slots) (hx : p.tables.exec = Jvm.exec) (hZ : Z.Warmed39 s.vm) (eT : T.heap = h) (A : Ary Z h a .char n f) {j : Int32} (h0 : ¬ j < 0) (hj : j.toNatClampNeg < n) {g : JFrame} (hg : g.method = m) {rest : List Value} (hs : g.stack = .int j :: .ref a :: rest) (hd : decode c.code g.pc = .ok (.caload, 1)) {v : Value} (hv : f j.toNatClampNeg = v) (target : State)
    (k : Steps p.tables e below (T.setTop { g with pc := g.pc + 1, stack := v :: rest }) target) : Steps p.tables e below (T.setTop g) target := by
  subst hv; obtain ⟨cl, A, q, F⟩ := A
  exact X.caload hx (by rw [eT]; exact A.1) (State.isArrayOf_alike hZ.alike A.2.1) A.2.2 (out_of q h0 hj) (F _ hj) hg hs hd target k
theorem ary_aget (X : Stand p l e R s m args below meth c T locs cells slots) (hx : p.tables.exec = Jvm.exec) (hZ : Z.Warmed39 s.vm) (eT : T.heap = h) (A : Ary Z h a ty n f) (hr : ty.isReference = true) {j : Int32} (h0 : ¬ j < 0) (hj : j.toNatClampNeg < n) {g : JFrame} (hg : g.method = m) {rest : List Value} (hs : g.stack = .int j :: .ref a :: rest) (hd : decode c.code g.pc = .ok (.aaload, 1)) {v : Value} (hv : f j.toNatClampNeg = v) (target : State)
    (k : Steps p.tables e below (T.setTop { g with pc := g.pc + 1, stack := v :: rest }) target) : Steps p.tables e below (T.setTop g) target := by
  subst hv; obtain ⟨cl, A, q, F⟩ := A
  exact X.aaload hx (by rw [eT]; exact A.1) (State.isArrayOf_alike hZ.alike A.2.1) hr A.2.2 (out_of q h0 hj) (F _ hj) hg hs hd target k
theorem ary_len (X : Stand p l e R s m args below meth c T locs cells slots) (hx : p.tables.exec = Jvm.exec) (hZ : Z.Warmed39 s.vm) (eT : T.heap = h) (A : Ary Z h a ty n f) {g : JFrame} (hg : g.method = m) {rest : List Value} (hs : g.stack = .ref a :: rest) (hd : decode c.code g.pc = .ok (.arraylength, 1)) {z : Int32} (hv : n.toInt32 = z) (target : State)
    (k : Steps p.tables e below (T.setTop { g with pc := g.pc + 1, stack := .int z :: rest }) target) : Steps p.tables e below (T.setTop g) target := by
  subst hv; obtain ⟨cl, A, q, F⟩ := A
  subst q
  exact X.arraylength hx (by rw [eT]; exact A.1) (State.isArrayOf_alike hZ.alike A.2.1) hg hs hd target k
theorem ary_iset (X : Stand p l e R s m args below meth c T locs cells slots) (hx : p.tables.exec = Jvm.exec) (hZ : Z.Warmed39 s.vm) (eT : T.heap = h) (A : Ary Z h a .int n f) {j x : Int32} (h0 : ¬ j < 0) (hj : j.toNatClampNeg < n) {g : JFrame} (hg : g.method = m) {rest : List Value} (hs : g.stack = .int x :: .int j :: .ref a :: rest) (hd : decode c.code g.pc = .ok (.iastore, 1)) :
    ∃ T' h', Stand p l e R s m args below meth c T' (locs ++ [⟨a, j.toNatClampNeg⟩]) cells slots ∧ T'.heap = h' ∧ Wr h h' a j.toNatClampNeg (.int x) ∧ ∀ target, Steps p.tables e below (T'.setTop { g with pc := g.pc + 1, stack := rest }) target → Steps p.tables e below (T.setTop g) target := by
  obtain ⟨cl, A, q, F⟩ := A
  exact stI X hx hZ eT A (out_of q h0 hj) hg hs hd
theorem ary_lset (X : Stand p l e R s m args below meth c T locs cells slots) (hx : p.tables.exec = Jvm.exec) (hZ : Z.Warmed39 s.vm) (eT : T.heap = h) (A : Ary Z h a .long n f) {j : Int32} {x : Int64} (h0 : ¬ j < 0) (hj : j.toNatClampNeg < n) {g : JFrame} (hg : g.method = m) {rest : List Value} (hs : g.stack = .long x :: .int j :: .ref a :: rest) (hd : decode c.code g.pc = .ok (.lastore, 1)) :
    ∃ T' h', Stand p l e R s m args below meth c T' (locs ++ [⟨a, j.toNatClampNeg⟩]) cells slots ∧ T'.heap = h' ∧ Wr h h' a j.toNatClampNeg (.long x) ∧ ∀ target, Steps p.tables e below (T'.setTop { g with pc := g.pc + 1, stack := rest }) target → Steps p.tables e below (T.setTop g) target := by
  obtain ⟨cl, A, q, F⟩ := A
  exact stJ X hx hZ eT A (out_of q h0 hj) hg hs hd
theorem ary_bset (X : Stand p l e R s m args below meth c T locs cells slots) (hx : p.tables.exec = Jvm.exec) (hZ : Z.Warmed39 s.vm) (eT : T.heap = h) (A : Ary Z h a .byte n f) {j x y : Int32} (h0 : ¬ j < 0) (hj : j.toNatClampNeg < n) {g : JFrame} (hg : g.method = m) {rest : List Value} (hs : g.stack = .int x :: .int j :: .ref a :: rest) (hd : decode c.code g.pc = .ok (.bastore, 1)) (hy : x.toInt8.toInt32 = y) :
    ∃ T' h', Stand p l e R s m args below meth c T' (locs ++ [⟨a, j.toNatClampNeg⟩]) cells slots ∧ T'.heap = h' ∧ Wr h h' a j.toNatClampNeg (.int y) ∧ ∀ target, Steps p.tables e below (T'.setTop { g with pc := g.pc + 1, stack := rest }) target → Steps p.tables e below (T.setTop g) target := by
  subst hy; obtain ⟨cl, A, q, F⟩ := A
  exact stB X hx hZ eT A (out_of q h0 hj) hg hs hd
theorem ary_cset (X : Stand p l e R s m args below meth c T locs cells slots) (hx : p.tables.exec = Jvm.exec) (hZ : Z.Warmed39 s.vm) (eT : T.heap = h) (A : Ary Z h a .char n f) {j x y : Int32} (h0 : ¬ j < 0) (hj : j.toNatClampNeg < n) {g : JFrame} (hg : g.method = m) {rest : List Value} (hs : g.stack = .int x :: .int j :: .ref a :: rest) (hd : decode c.code g.pc = .ok (.castore, 1)) (hy : nar .char x = y) :
    ∃ T' h', Stand p l e R s m args below meth c T' (locs ++ [⟨a, j.toNatClampNeg⟩]) cells slots ∧ T'.heap = h' ∧ Wr h h' a j.toNatClampNeg (.int y) ∧ ∀ target, Steps p.tables e below (T'.setTop { g with pc := g.pc + 1, stack := rest }) target → Steps p.tables e below (T.setTop g) target := by
  subst hy; obtain ⟨cl, A, q, F⟩ := A
  exact stC X hx hZ eT A (out_of q h0 hj) hg hs hd
theorem arr_set (X : Stand p l e R s m args below meth c T locs cells slots) (hx : p.tables.exec = Jvm.exec) (hZ : Z.Warmed39 s.vm) (eT : T.heap = h) (A : ArR Z h a K n f) {j : Int32} {y : Addr} (I : Ins Z h y K true) (h0 : ¬ j < 0) (hj : j.toNatClampNeg < n) {g : JFrame} (hg : g.method = m) {rest : List Value} (hs : g.stack = .ref y :: .int j :: .ref a :: rest) (hd : decode c.code g.pc = .ok (.aastore, 1)) :
    ∃ T' h', Stand p l e R s m args below meth c T' (locs ++ [⟨a, j.toNatClampNeg⟩]) cells slots ∧ T'.heap = h' ∧ Wr h h' a j.toNatClampNeg (.ref y) ∧ ∀ target, Steps p.tables e below (T'.setTop { g with pc := g.pc + 1, stack := rest }) target → Steps p.tables e below (T.setTop g) target := by
  obtain ⟨cl, A, O, q, F⟩ := A
  exact stR X hx hZ eT A (out_of q h0 hj) rfl (Sto.of A O I) hg hs hd
end Arrays
theorem nar_ite (P : Prop) [Decidable P] : nar .boolean (if P then (1 : Int32) else 0) = if P then 1 else 0 := by by_cases q : P <;> simp [q] <;> rfl
theorem cat_ref {w : Value} (q : w.isRef = true) : w.category = 1 := by cases w <;> first | rfl | (simp [Value.isRef] at q)
theorem upd_hit {g f : Nat → Value} {k : Nat} {w : Value} (q : g = fun i => if i = k then w else f i) : g k = w := by rw [q]; exact if_pos rfl
theorem upd_miss {g f : Nat → Value} {k j : Nat} {w u : Value} (q : g = fun i => if i = k then w else f i) (ne : ¬ j = k) (r : f j = u) : g j = u := by rw [q]; exact (if_neg ne).trans r
theorem upd_c {g : Nat → Value} {j : Nat} {w : Value} (q : g = fun _ => w) : g j = w := by rw [q]
theorem b_idem (x : Int32) : x.toInt8.toInt32.toInt8.toInt32 = x.toInt8.toInt32 := by rw [Int8.toInt8_toInt32]
theorem isI_c (x : Int32) : ∀ n : Nat, ∃ y, (fun _ => Value.int x) n = Value.int y := fun _ => ⟨x, rfl⟩
theorem isI_s {f : Nat → Value} (q : ∀ n, ∃ y, f n = Value.int y) (k : Nat) (x : Int32) : ∀ n, ∃ y, (fun i => if i = k then Value.int x else f i) n = Value.int y := fun n => by
  by_cases e : n = k
  · exact ⟨x, if_pos e⟩
  · obtain ⟨y, hy⟩ := q n
    exact ⟨y, (if_neg e).trans hy⟩
end Own
section Own2
variable {p : Program} {l : Launch} {e : Env} {R : Room} {s : State} {m : MethodId} {args : Array Value} {below : List Frame} {meth : Method} {c : Code} {T : State} {locs : List Loc} {cells slots : Nat} {Z : State} {h h' : Heap}
variable {a b : Addr} {ty : FieldType} {n n' : Nat} {f f' : Nat → Value}
theorem getD_map (f : Nat → Value) (d : Value) (n i : Nat) (hi : i < n) : ((List.range n).map f).getD i d = f i := by
  simp [List.getD, hi]
theorem Ary.arv (A : Ary Z h a ty n f) (hn : n < 2147483648) (hf : ∀ i, i < n → fits ty (f i) = true) : ∃ k, Arv Z h a k ty n.toInt32 ((List.range n).map f) .null := by
  obtain ⟨c, A, hs, hv⟩ := A
  have hz : n.toInt32.toInt = n := len_toInt hn
  have hz2 : n.toInt32.toNatClampNeg = n := by rw [Int32.toNatClampNeg, hz]; omega
  refine ⟨c.cls, c, A, rfl, by rw [hs, hz2], ?_, fun k hk => ?_, fun i hi => ?_⟩
  · rw [Int32.lt_iff_toInt_lt, hz]; have : (0 : Int32).toInt = 0 := rfl; omega
  · rw [hs] at hk; rw [hv k hk, getD_map f _ n k hk]
  · rw [hs] at hi; rw [getD_map f _ n i hi]; exact hf i hi
theorem ary_copy (X : Stand p l e R s m args below meth c T locs cells slots) (hx : p.tables.exec = Jvm.exec) (hZ : Z.Warmed39 s.vm) {a0 : Array Value} {own : String} {index : Nat} (hown : s.vm.findClass own = some m.cls)
    (w1 : (Jvm.Cond.methodLink own index Jvm.Stand.acN).before a0 Z = true) (w2 : (Jvm.Cond.native Jvm.Stand.acN).before a0 Z = true) (w3 : (Jvm.Cond.static Jvm.Stand.acN).before a0 Z = true) (w4 : (Jvm.Cond.initialized "java/lang/System").before a0 Z = true) (eT : T.heap = h)
    (A : Ary Z h a ty n f) (B : Ary Z h b ty n' f') (hty : refKind ty = false) (hn : n < 2147483648) (hn' : n' < 2147483648) (hf : ∀ i, i < n → fits ty (f i) = true) (hf' : ∀ i, i < n' → fits ty (f' i) = true)
    {nn : Int32} (h3 : ¬ nn < 0) (h4 : nn.toNatClampNeg ≤ n) (h5 : nn.toNatClampNeg ≤ n') {n0 : Nat} (N : Fr n0 locs) (ge : n0 ≤ b)
    {g : JFrame} (hg : g.method = m) (hsize : g.locals.size = c.maxLocals) {rest : List Value} (hs : g.stack = .int nn :: .int 0 :: .ref b :: .int 0 :: .ref a :: rest) (hd : decode c.code g.pc = .ok (.invokestatic index, 3))
    (hf0 : 1 ≤ R.frames) {W : Nat} (hW : 2 * g.monitorRoom + (rest.map fun v => v.category).sum ≤ W) (hlo : W + 18 ≤ R.locals) :
    ∃ T' h' L, Stand p l e R s m args below meth c T' L cells slots ∧ T'.heap = h' ∧ Fr n0 L ∧ Keep h h' [b] ∧ Ary Z h' b ty n' (fun i => if i < nn.toNatClampNeg then f i else f' i) ∧
      ∀ target, Steps p.tables e below (T'.setTop { g with pc := g.pc + 3, stack := rest }) target → Steps p.tables e below (T.setTop g) target := by
  obtain ⟨k, A⟩ := A.arv hn hf
  obtain ⟨k', B⟩ := B.arv hn' hf'
  have z1 : n.toInt32.toNatClampNeg = n := by rw [Int32.toNatClampNeg, len_toInt hn]; omega
  have z2 : n'.toInt32.toNatClampNeg = n' := by rw [Int32.toNatClampNeg, len_toInt hn']; omega
  have e0 : (0 : Int32).toNatClampNeg = 0 := rfl
  obtain ⟨T', h', L, X', e', N', K', B', st⟩ := cpA X hx hZ hown w1 w2 w3 w4 eT A B (Or.inl ⟨rfl, hty⟩) (sp := 0) (dp := 0) (nn := nn) (by decide) (by decide) h3 (by rw [e0, z1]; omega) (by rw [e0, z2]; omega) rfl (by rw [e0]; simp; omega) N ge hg hsize hs hd hf0 hW hlo
  refine ⟨T', h', L, X', e', N', K', ?_, st⟩
  obtain ⟨cl, A1, -, S1, -, H1, -⟩ := B'
  rw [z2] at S1
  refine ⟨cl, A1, S1, fun i hi => ?_⟩
  rw [H1 i (by omega)]
  congr 1
  rw [e0]
  show _ = (if i < nn.toNatClampNeg then f i else f' i)
  by_cases q : i < nn.toNatClampNeg
  · rw [if_pos q]
    simp [List.getD, List.getElem?_append, q, show i < n from by omega]
  · rw [if_neg q]
    simp [List.getD, List.getElem?_append, q, hi, show nn.toNatClampNeg + (i - nn.toNatClampNeg) = i from by omega]
theorem ary_clone (X : Stand p l e R s m args below meth c T locs cells slots) (hx : p.tables.exec = Jvm.exec) (hZ : Z.Warmed39 s.vm) {a0 : Array Value} {own ad : String} {index : Nat} (hown : s.vm.findClass own = some m.cls)
    (w1 : (Jvm.Cond.methodLink own index ⟨ad, "clone", "()Ljava/lang/Object;"⟩).before a0 Z = true) (w2 : (Jvm.Cond.sameMethod ad "java/lang/Object" "clone" "()Ljava/lang/Object;").before a0 Z = true) (w3 : (Jvm.Cond.native ⟨"java/lang/Object", "clone", "()Ljava/lang/Object;"⟩).before a0 Z = true)
    (w4 : (Jvm.Cond.instanceMethod ⟨"java/lang/Object", "clone", "()Ljava/lang/Object;"⟩).before a0 Z = true) (w5 : (Jvm.Cond.selects ad ⟨ad, "clone", "()Ljava/lang/Object;"⟩ ⟨"java/lang/Object", "clone", "()Ljava/lang/Object;"⟩).before a0 Z = true) (w6 : (Jvm.Cond.castable ad "java/lang/Cloneable").before a0 Z = true)
    (eT : T.heap = h) (A : Ary Z h a ty n f) (E : Exa Z h a ad) (hf : ∀ i, i < n → fits ty (f i) = true) {g : JFrame} (hg : g.method = m) (hsize : g.locals.size = c.maxLocals) {rest : List Value} (hst : g.stack = .ref a :: rest) (hd : decode c.code g.pc = .ok (.invokevirtual index, 3))
    (hf0 : 1 ≤ R.frames) {W cap : Nat} (hW : 2 * g.monitorRoom + (rest.map fun v => v.category).sum ≤ W) (hl : W + 14 ≤ R.locals) (hcap : n ≤ cap) (hc : cells + 1 ≤ R.cells) (hsl : slots + cap ≤ R.slots) :
    ∃ T' h', Stand p l e R s m args below meth c T' locs (cells + 1) (slots + cap) ∧ T'.heap = h' ∧ Ext h h' ∧ Ary Z h' h.size ty n f ∧ Exa Z h' h.size ad ∧
      ∀ target, Steps p.tables e below (T'.setTop { g with pc := g.pc + 3, stack := .ref h.size :: rest }) target → Steps p.tables e below (T.setTop g) target := by
  obtain ⟨cl, A, hs, hv⟩ := A
  have FC : FitC Z cl := fitC_of A fun i hi v hvv => by rw [hv i (by omega)] at hvv; cases hvv; exact hf i (by omega)
  obtain ⟨T', h', X', e', ex, A', E', st⟩ := cloneA X hx hZ hown w1 w2 w3 w4 w5 w6 eT A E FC hg hsize hst hd hf0 hW hl (by omega) hc hsl
  exact ⟨T', h', X', e', ex, ⟨cloneOf cl, A', hs, hv⟩, E', st⟩
end Own2
def IsB (n : Nat) (f : Nat → Value) : Prop := ∀ i, i < n → ∃ x, f i = Value.int x ∧ fits .byte (.int x) = true
theorem IsB.fits {n : Nat} {f : Nat → Value} (h : IsB n f) : ∀ i, i < n → Jvm.fits .byte (f i) = true := fun i hi => by obtain ⟨x, h1, h2⟩ := h i hi; rw [h1]; exact h2
theorem IsB.ints {n : Nat} {f : Nat → Value} (h : IsB n f) : ∀ i, i < n → ∃ y, f i = Value.int y := fun i hi => by obtain ⟨x, h1, h2⟩ := h i hi; exact ⟨x, h1⟩
theorem own_cl {Z : State} {h : Heap} {b : Addr} {n : Nat} {f : Nat → Value} {p : Int32} (A : Ary Z h b .byte n f) (hp : p = (n.toInt32)) (hn : n ≤ 16) : Ary Z h b .byte p.toNatClampNeg (fun i => if i < n then f i else (.int (0 : Int32))) := by
  have hz : n.toInt32.toInt = n := len_toInt (by omega)
  have e : p.toNatClampNeg = n := by rw [hp, Int32.toNatClampNeg, hz]; omega
  rw [e]
  exact A.congr fun i hi => (if_pos hi).symm

theorem d1_0 : decode jdk_29_method_65_code 0 = .ok (.iload_n 0, 1) := by decide +kernel
theorem d1_1 : decode jdk_29_method_65_code 1 = .ok (.iload_n 1, 1) := by decide +kernel
theorem d1_2 : decode jdk_29_method_65_code 2 = .ok (.if_icmp .lt 7, 3) := by decide +kernel
theorem d1_9 : decode jdk_29_method_65_code 9 = .ok (.iload_n 1, 1) := by decide +kernel
theorem d1_5 : decode jdk_29_method_65_code 5 = .ok (.iload_n 0, 1) := by decide +kernel
theorem d1_6 : decode jdk_29_method_65_code 6 = .ok (.goto 4, 3) := by decide +kernel
theorem d1_10 : decode jdk_29_method_65_code 10 = .ok (.ireturn, 1) := by decide +kernel
def F_rm1 (p1 : Int32) (p2 : Int32) : Int32 := let w4 : Int32 := (if (p1 < p2) then p2 else p1); w4
def Q_rm1 (Z : State) (p1 : Int32) (p2 : Int32) (h0 : Heap) (n0 : Nat) (v : Option Value) (h : Heap) (L : List Loc) : Prop := v = some (.int (F_rm1 p1 p2)) ∧ Fr n0 L ∧ h = h0
theorem ef_rm1 (m : MethodId) (x0 : Int32) (x1 : Int32) : entryFrame m #[(.int x0), (.int x1)] 2 = mkF m 0 #[.val (.int x0), .val (.int x1)] [] := by first | (simp [entryFrame, mkF, argsToLocals, Value.category]; done) | rfl
set_option maxRecDepth 65536 in
set_option maxHeartbeats 40000000 in
theorem rm1 (l : Launch) (Z : State) (a0 : Array Value) (hw : ∀ d ∈ tables_1, d.before a0 Z = true) (ws : List Jvm.Cond) (p1 : Int32) (p2 : Int32) (h0 : Heap) (n0 : Nat) (Z0 : n0 ≤ h0.size)  :
    MetFree l (⟨"java/lang/Math", "max", "(II)I"⟩ : MethodName) (head1 (Jvm.Cond.code (⟨"java/lang/Math", "max", "(II)I"⟩ : MethodName) jdk_29_method_65_code 2 (some .int) :: ws) ({ frames := 0, cells := 0, slots := 0, locals := 0 } : Room)) (fun a U => a = #[(.int p1), (.int p2)] ∧ Z.Warmed39 U.vm ∧ U.heap = h0) (fun _ _ _ _ _ => True) (fun _ U o U' => ∃ v L, o = .returned v ∧ Q_rm1 Z p1 p2 h0 n0 v U'.heap L ∧ FrameEnd U o U' L ({ frames := 0, cells := 0, slots := 0, locals := 0 } : Room).cells ({ frames := 0, cells := 0, slots := 0, locals := 0 } : Room).slots) := by
  refine MetFree.of_bodySF (Jvm.Free.JP.mathPlain rfl (by decide +kernel)) hisR ?_
  intro p e s m args below meth c s₁ Bd hml0 hP hK
  obtain ⟨rfl, hZ, hh⟩ := hP
  have hx := Bd.exec
  have hby := Bd.bytes
  have hml : c.maxLocals = 2 := hml0
  have hown : s.vm.findClass "java/lang/Math" = some m.cls := findClass_of_methodNamed Bd.named
  have hnm := (name_of_methodNamed Bd.named Bd.method).1
  have X0 : Stand p l e ({ frames := 0, cells := 0, slots := 0, locals := 0 } : Room) s m #[(.int p1), (.int p2)] below meth c s₁ [] 0 0 := Stand.of_body Bd
  have e0 : s₁.heap = h0 := by rw [← hh, Bd.state]; rfl
  have N0 := Fr.nil n0
  show Run p e below s 0 0 (Q_rm1 Z p1 p2 h0 n0) (s₁.setTop (entryFrame m #[(.int p1), (.int p2)] 2))
  refine Run.go (fun _ k => castTop (ef_rm1 m p1 p2) k) ?_
  show Run p e below s 0 0 (Q_rm1 Z p1 p2 h0 n0) (s₁.setTop (mkF m 0 #[.val (.int p1), .val (.int p2)] []))
  refine Run.go (fun _ k => XS.iloadN X0.here hx rfl (hb hby d1_0) rfl  k) ?_
  show Run p e below s 0 0 (Q_rm1 Z p1 p2 h0 n0) (s₁.setTop (mkF m 1 #[.val (.int p1), .val (.int p2)] [(.int p1)]))
  refine Run.go (fun _ k => XS.iloadN X0.here hx rfl (hb hby d1_1) rfl  k) ?_
  show Run p e below s 0 0 (Q_rm1 Z p1 p2 h0 n0) (s₁.setTop (mkF m 2 #[.val (.int p1), .val (.int p2)] [(.int p2), (.int p1)]))
  have J3 : ∀ (w4 : Int32) (hw4 : w4 = (if (p1 < p2) then p2 else p1)) (T5 : State) (L5 : List Loc) (X5 : Stand p l e ({ frames := 0, cells := 0, slots := 0, locals := 0 } : Room) s m #[(.int p1), (.int p2)] below meth c T5 L5 0 0) (e5 : T5.heap = h0) (N5 : Fr n0 L5), Run p e below s 0 0 (Q_rm1 Z p1 p2 h0 n0) (T5.setTop (mkF m 10 #[.val (.int p1), .val (.int p2)] [(.int w4)])) := by
    intro w4 hw4 T5 L5 X5 e5 N5
    show Run p e below s 0 0 (Q_rm1 Z p1 p2 h0 n0) (T5.setTop (mkF m 10 #[.val (.int p1), .val (.int p2)] [(.int w4)]))
    refine Run.retI X5 hx Bd.returns Bd.notSynchronized (hb hby d1_10) (by decide) (by decide) ?_
    show Q_rm1 Z p1 p2 h0 n0 _ T5.heap _
    exact ⟨congrArg some (congrArg Value.int (show w4 = (F_rm1 p1 p2) from (by subst hw4; unfold F_rm1; rfl))), N5, e5⟩
  by_cases hc6 : (p1 < p2)
  · refine Run.go (fun _ k => XS.icmpYes X0.here hx rfl (pc0 := 2) (pc' := 9) rfl (hb hby d1_2) rfl (tlt hc6).1 (by decide) (by decide) k) ?_
    show Run p e below s 0 0 (Q_rm1 Z p1 p2 h0 n0) (s₁.setTop (mkF m 9 #[.val (.int p1), .val (.int p2)] []))
    refine Run.go (fun _ k => XS.iloadN X0.here hx rfl (hb hby d1_9) rfl  k) ?_
    show Run p e below s 0 0 (Q_rm1 Z p1 p2 h0 n0) (s₁.setTop (mkF m 10 #[.val (.int p1), .val (.int p2)] [(.int p2)]))
    exact J3 _ (by rw [if_pos hc6]) _ _ X0 e0 N0
  · refine Run.go (fun _ k => XS.icmpNo X0.here hx rfl (hb hby d1_2) rfl (flt hc6).1 k) ?_
    show Run p e below s 0 0 (Q_rm1 Z p1 p2 h0 n0) (s₁.setTop (mkF m 5 #[.val (.int p1), .val (.int p2)] []))
    refine Run.go (fun _ k => XS.iloadN X0.here hx rfl (hb hby d1_5) rfl  k) ?_
    show Run p e below s 0 0 (Q_rm1 Z p1 p2 h0 n0) (s₁.setTop (mkF m 6 #[.val (.int p1), .val (.int p2)] [(.int p1)]))
    refine Run.go (fun _ k => XS.goto X0.here hx rfl (pc0 := 6) (pc' := 10) rfl (hb hby d1_6) (by decide) (by decide) k) ?_
    show Run p e below s 0 0 (Q_rm1 Z p1 p2 h0 n0) (s₁.setTop (mkF m 10 #[.val (.int p1), .val (.int p2)] [(.int p1)]))
    exact J3 _ (by rw [if_neg hc6]) _ _ X0 e0 N0
theorem d6_0 : decode jdk_29_method_69_code 0 = .ok (.iload_n 0, 1) := by decide +kernel
theorem d6_1 : decode jdk_29_method_69_code 1 = .ok (.iload_n 1, 1) := by decide +kernel
theorem d6_2 : decode jdk_29_method_69_code 2 = .ok (.if_icmp .gt 7, 3) := by decide +kernel
theorem d6_9 : decode jdk_29_method_69_code 9 = .ok (.iload_n 1, 1) := by decide +kernel
theorem d6_5 : decode jdk_29_method_69_code 5 = .ok (.iload_n 0, 1) := by decide +kernel
theorem d6_6 : decode jdk_29_method_69_code 6 = .ok (.goto 4, 3) := by decide +kernel
theorem d6_10 : decode jdk_29_method_69_code 10 = .ok (.ireturn, 1) := by decide +kernel
def F_rm6 (p1 : Int32) (p2 : Int32) : Int32 := let w4 : Int32 := (if (p2 < p1) then p2 else p1); w4
def Q_rm6 (Z : State) (p1 : Int32) (p2 : Int32) (h0 : Heap) (n0 : Nat) (v : Option Value) (h : Heap) (L : List Loc) : Prop := v = some (.int (F_rm6 p1 p2)) ∧ Fr n0 L ∧ h = h0
theorem ef_rm6 (m : MethodId) (x0 : Int32) (x1 : Int32) : entryFrame m #[(.int x0), (.int x1)] 2 = mkF m 0 #[.val (.int x0), .val (.int x1)] [] := by first | (simp [entryFrame, mkF, argsToLocals, Value.category]; done) | rfl
set_option maxRecDepth 65536 in
set_option maxHeartbeats 40000000 in
theorem rm6 (l : Launch) (Z : State) (a0 : Array Value) (hw : ∀ d ∈ tables_1, d.before a0 Z = true) (ws : List Jvm.Cond) (p1 : Int32) (p2 : Int32) (h0 : Heap) (n0 : Nat) (Z0 : n0 ≤ h0.size)  :
    MetFree l (⟨"java/lang/Math", "min", "(II)I"⟩ : MethodName) (head1 (Jvm.Cond.code (⟨"java/lang/Math", "min", "(II)I"⟩ : MethodName) jdk_29_method_69_code 2 (some .int) :: ws) ({ frames := 0, cells := 0, slots := 0, locals := 0 } : Room)) (fun a U => a = #[(.int p1), (.int p2)] ∧ Z.Warmed39 U.vm ∧ U.heap = h0) (fun _ _ _ _ _ => True) (fun _ U o U' => ∃ v L, o = .returned v ∧ Q_rm6 Z p1 p2 h0 n0 v U'.heap L ∧ FrameEnd U o U' L ({ frames := 0, cells := 0, slots := 0, locals := 0 } : Room).cells ({ frames := 0, cells := 0, slots := 0, locals := 0 } : Room).slots) := by
  refine MetFree.of_bodySF (Jvm.Free.JP.mathPlain rfl (by decide +kernel)) hisR ?_
  intro p e s m args below meth c s₁ Bd hml0 hP hK
  obtain ⟨rfl, hZ, hh⟩ := hP
  have hx := Bd.exec
  have hby := Bd.bytes
  have hml : c.maxLocals = 2 := hml0
  have hown : s.vm.findClass "java/lang/Math" = some m.cls := findClass_of_methodNamed Bd.named
  have hnm := (name_of_methodNamed Bd.named Bd.method).1
  have X0 : Stand p l e ({ frames := 0, cells := 0, slots := 0, locals := 0 } : Room) s m #[(.int p1), (.int p2)] below meth c s₁ [] 0 0 := Stand.of_body Bd
  have e0 : s₁.heap = h0 := by rw [← hh, Bd.state]; rfl
  have N0 := Fr.nil n0
  show Run p e below s 0 0 (Q_rm6 Z p1 p2 h0 n0) (s₁.setTop (entryFrame m #[(.int p1), (.int p2)] 2))
  refine Run.go (fun _ k => castTop (ef_rm6 m p1 p2) k) ?_
  show Run p e below s 0 0 (Q_rm6 Z p1 p2 h0 n0) (s₁.setTop (mkF m 0 #[.val (.int p1), .val (.int p2)] []))
  refine Run.go (fun _ k => XS.iloadN X0.here hx rfl (hb hby d6_0) rfl  k) ?_
  show Run p e below s 0 0 (Q_rm6 Z p1 p2 h0 n0) (s₁.setTop (mkF m 1 #[.val (.int p1), .val (.int p2)] [(.int p1)]))
  refine Run.go (fun _ k => XS.iloadN X0.here hx rfl (hb hby d6_1) rfl  k) ?_
  show Run p e below s 0 0 (Q_rm6 Z p1 p2 h0 n0) (s₁.setTop (mkF m 2 #[.val (.int p1), .val (.int p2)] [(.int p2), (.int p1)]))
  have J3 : ∀ (w4 : Int32) (hw4 : w4 = (if (p2 < p1) then p2 else p1)) (T5 : State) (L5 : List Loc) (X5 : Stand p l e ({ frames := 0, cells := 0, slots := 0, locals := 0 } : Room) s m #[(.int p1), (.int p2)] below meth c T5 L5 0 0) (e5 : T5.heap = h0) (N5 : Fr n0 L5), Run p e below s 0 0 (Q_rm6 Z p1 p2 h0 n0) (T5.setTop (mkF m 10 #[.val (.int p1), .val (.int p2)] [(.int w4)])) := by
    intro w4 hw4 T5 L5 X5 e5 N5
    show Run p e below s 0 0 (Q_rm6 Z p1 p2 h0 n0) (T5.setTop (mkF m 10 #[.val (.int p1), .val (.int p2)] [(.int w4)]))
    refine Run.retI X5 hx Bd.returns Bd.notSynchronized (hb hby d6_10) (by decide) (by decide) ?_
    show Q_rm6 Z p1 p2 h0 n0 _ T5.heap _
    exact ⟨congrArg some (congrArg Value.int (show w4 = (F_rm6 p1 p2) from (by subst hw4; unfold F_rm6; rfl))), N5, e5⟩
  by_cases hc6 : (p2 < p1)
  · refine Run.go (fun _ k => XS.icmpYes X0.here hx rfl (pc0 := 2) (pc' := 9) rfl (hb hby d6_2) rfl (tlt hc6).2.2.1 (by decide) (by decide) k) ?_
    show Run p e below s 0 0 (Q_rm6 Z p1 p2 h0 n0) (s₁.setTop (mkF m 9 #[.val (.int p1), .val (.int p2)] []))
    refine Run.go (fun _ k => XS.iloadN X0.here hx rfl (hb hby d6_9) rfl  k) ?_
    show Run p e below s 0 0 (Q_rm6 Z p1 p2 h0 n0) (s₁.setTop (mkF m 10 #[.val (.int p1), .val (.int p2)] [(.int p2)]))
    exact J3 _ (by rw [if_pos hc6]) _ _ X0 e0 N0
  · refine Run.go (fun _ k => XS.icmpNo X0.here hx rfl (hb hby d6_2) rfl (flt hc6).2.2.1 k) ?_
    show Run p e below s 0 0 (Q_rm6 Z p1 p2 h0 n0) (s₁.setTop (mkF m 5 #[.val (.int p1), .val (.int p2)] []))
    refine Run.go (fun _ k => XS.iloadN X0.here hx rfl (hb hby d6_5) rfl  k) ?_
    show Run p e below s 0 0 (Q_rm6 Z p1 p2 h0 n0) (s₁.setTop (mkF m 6 #[.val (.int p1), .val (.int p2)] [(.int p1)]))
    refine Run.go (fun _ k => XS.goto X0.here hx rfl (pc0 := 6) (pc' := 10) rfl (hb hby d6_6) (by decide) (by decide) k) ?_
    show Run p e below s 0 0 (Q_rm6 Z p1 p2 h0 n0) (s₁.setTop (mkF m 10 #[.val (.int p1), .val (.int p2)] [(.int p1)]))
    exact J3 _ (by rw [if_neg hc6]) _ _ X0 e0 N0
theorem d2_0 : decode prog_24_method_1_code 0 = .ok (.aload_n 0, 1) := by decide +kernel
theorem d2_1 : decode prog_24_method_1_code 1 = .ok (.invokespecial 1, 3) := by decide +kernel
theorem d2_4 : decode prog_24_method_1_code 4 = .ok (.aload_n 0, 1) := by decide +kernel
theorem d2_5 : decode prog_24_method_1_code 5 = .ok (.iconst 4, 1) := by decide +kernel
theorem d2_6 : decode prog_24_method_1_code 6 = .ok (.newarray .byte, 2) := by decide +kernel
theorem d2_8 : decode prog_24_method_1_code 8 = .ok (.putfield 7, 3) := by decide +kernel
theorem d2_11 : decode prog_24_method_1_code 11 = .ok (.aload_n 0, 1) := by decide +kernel
theorem d2_12 : decode prog_24_method_1_code 12 = .ok (.iload_n 1, 1) := by decide +kernel
theorem d2_13 : decode prog_24_method_1_code 13 = .ok (.putfield 13, 3) := by decide +kernel
theorem d2_16 : decode prog_24_method_1_code 16 = .ok (.aload_n 0, 1) := by decide +kernel
theorem d2_17 : decode prog_24_method_1_code 17 = .ok (.iload_n 1, 1) := by decide +kernel
theorem d2_18 : decode prog_24_method_1_code 18 = .ok (.putfield 17, 3) := by decide +kernel
theorem d2_21 : decode prog_24_method_1_code 21 = .ok (.return_, 1) := by decide +kernel
def Q_rm2 (Z : State) (a1 : Addr) (p2 : Int32) (u_gaps_a1 : Value) (u_first_a1 : Value) (u_last_a1 : Value) (u_length_a1 : Value) (h0 : Heap) (n0 : Nat) (v : Option Value) (h : Heap) (L : List Loc) : Prop := ∃ (b4 : Addr), v = none ∧ Fr n0 L ∧ Keep h0 h [a1] ∧ h0.size ≤ b4 ∧ Exa Z h a1 "com/example/subjectory/subjectory/index/Postings" ∧ Fld Z h a1 "com/example/subjectory/subjectory/index/Postings" "gaps" "[B" (.ref b4) ∧ Fld Z h a1 "com/example/subjectory/subjectory/index/Postings" "first" "I" (.int p2) ∧ Fld Z h a1 "com/example/subjectory/subjectory/index/Postings" "last" "I" (.int p2) ∧ Fld Z h a1 "com/example/subjectory/subjectory/index/Postings" "length" "I" u_length_a1 ∧ Exa Z h b4 "[B" ∧ Ary Z h b4 .byte 4 (fun _ => (.int (0 : Int32)))
theorem ef_rm2 (m : MethodId) (x0 : Addr) (x1 : Int32) : entryFrame m #[(.ref x0), (.int x1)] 2 = mkF m 0 #[.val (.ref x0), .val (.int x1)] [] := by first | (simp [entryFrame, mkF, argsToLocals, Value.category]; done) | rfl
theorem pn_0 : plainName "com/example/subjectory/subjectory/index/Postings" = true := by first | (simp [plainName, overriddenIn]; done) | decide +kernel
set_option maxRecDepth 65536 in
set_option maxHeartbeats 40000000 in
theorem rm2 (l : Launch) (Z : State) (a0 : Array Value) (hw : ∀ d ∈ tables_1, d.before a0 Z = true) (ws : List Jvm.Cond) (a1 : Addr) (p2 : Int32) (u_gaps_a1 : Value) (u_first_a1 : Value) (u_last_a1 : Value) (u_length_a1 : Value) (h0 : Heap) (n0 : Nat) (Z0 : n0 ≤ h0.size) (E_a1 : Exa Z h0 a1 "com/example/subjectory/subjectory/index/Postings") (F_gaps_a1 : Fld Z h0 a1 "com/example/subjectory/subjectory/index/Postings" "gaps" "[B" u_gaps_a1) (g_a1 : n0 ≤ a1) (F_first_a1 : Fld Z h0 a1 "com/example/subjectory/subjectory/index/Postings" "first" "I" u_first_a1) (F_last_a1 : Fld Z h0 a1 "com/example/subjectory/subjectory/index/Postings" "last" "I" u_last_a1) (F_length_a1 : Fld Z h0 a1 "com/example/subjectory/subjectory/index/Postings" "length" "I" u_length_a1) :
    MetFree l (⟨"com/example/subjectory/subjectory/index/Postings", "<init>", "(I)V"⟩ : MethodName) (head1 (Jvm.Cond.code (⟨"com/example/subjectory/subjectory/index/Postings", "<init>", "(I)V"⟩ : MethodName) prog_24_method_1_code 2 none :: ws) ({ frames := 1, cells := 1, slots := 4, locals := 12 } : Room)) (fun a U => a = #[(.ref a1), (.int p2)] ∧ Z.Warmed39 U.vm ∧ U.heap = h0) (fun _ _ _ _ _ => True) (fun _ U o U' => ∃ v L, o = .returned v ∧ Q_rm2 Z a1 p2 u_gaps_a1 u_first_a1 u_last_a1 u_length_a1 h0 n0 v U'.heap L ∧ FrameEnd U o U' L ({ frames := 1, cells := 1, slots := 4, locals := 12 } : Room).cells ({ frames := 1, cells := 1, slots := 4, locals := 12 } : Room).slots) := by
  refine MetFree.of_bodySF (plainFor_of_name pn_0) hisR ?_
  intro p e s m args below meth c s₁ Bd hml0 hP hK
  obtain ⟨rfl, hZ, hh⟩ := hP
  have hx := Bd.exec
  have hby := Bd.bytes
  have hml : c.maxLocals = 2 := hml0
  have hown : s.vm.findClass "com/example/subjectory/subjectory/index/Postings" = some m.cls := findClass_of_methodNamed Bd.named
  have hnm := (name_of_methodNamed Bd.named Bd.method).1
  have X0 : Stand p l e ({ frames := 1, cells := 1, slots := 4, locals := 12 } : Room) s m #[(.ref a1), (.int p2)] below meth c s₁ [] 0 0 := Stand.of_body Bd
  have e0 : s₁.heap = h0 := by rw [← hh, Bd.state]; rfl
  have N0 := Fr.nil n0
  show Run p e below s 1 4 (Q_rm2 Z a1 p2 u_gaps_a1 u_first_a1 u_last_a1 u_length_a1 h0 n0) (s₁.setTop (entryFrame m #[(.ref a1), (.int p2)] 2))
  refine Run.go (fun _ k => castTop (ef_rm2 m a1 p2) k) ?_
  show Run p e below s 1 4 (Q_rm2 Z a1 p2 u_gaps_a1 u_first_a1 u_last_a1 u_length_a1 h0 n0) (s₁.setTop (mkF m 0 #[.val (.ref a1), .val (.int p2)] []))
  refine Run.go (fun _ k => XS.aloadN X0.here hx rfl (hb hby d2_0) rfl rfl k) ?_
  show Run p e below s 1 4 (Q_rm2 Z a1 p2 u_gaps_a1 u_first_a1 u_last_a1 u_length_a1 h0 n0) (s₁.setTop (mkF m 1 #[.val (.ref a1), .val (.int p2)] [(.ref a1)]))
  obtain ⟨T3, X3, e3, st3⟩ := initO X0 hx hZ hown (hw _ (List.mem_of_getElem? (i := 11) rfl)) (hw _ (List.mem_of_getElem? (i := 12) rfl)) (hw _ (List.mem_of_getElem? (i := 13) rfl)) e0 (g := (mkF m 1 #[.val (.ref a1), .val (.int p2)] [(.ref a1)])) rfl (by rw [hml]; rfl) rfl (hb hby d2_1) (by decide) (W := 0) (by show 2 * 0 + _ ≤ _; exact Nat.le_of_eq rfl) (by decide)
  refine Run.go st3 ?_
  show Run p e below s 1 4 (Q_rm2 Z a1 p2 u_gaps_a1 u_first_a1 u_last_a1 u_length_a1 h0 n0) (T3.setTop (mkF m 4 #[.val (.ref a1), .val (.int p2)] []))
  refine Run.go (fun _ k => XS.aloadN X3.here hx rfl (hb hby d2_4) rfl rfl k) ?_
  show Run p e below s 1 4 (Q_rm2 Z a1 p2 u_gaps_a1 u_first_a1 u_last_a1 u_length_a1 h0 n0) (T3.setTop (mkF m 5 #[.val (.ref a1), .val (.int p2)] [(.ref a1)]))
  refine Run.go (fun _ k => XS.iconst X3.here hx rfl (hb hby d2_5) k) ?_
  show Run p e below s 1 4 (Q_rm2 Z a1 p2 u_gaps_a1 u_first_a1 u_last_a1 u_length_a1 h0 n0) (T3.setTop (mkF m 6 #[.val (.ref a1), .val (.int p2)] [(.int (4 : Int32)), (.ref a1)]))
  obtain ⟨T4, h4, k4, X4, e4, E4, A4, EA4, st4⟩ := newPE X3 hx hZ (hw _ (List.mem_of_getElem? (i := 14) rfl)) e3 (g := (mkF m 6 #[.val (.ref a1), .val (.int p2)] [(.int (4 : Int32)), (.ref a1)])) rfl (hb hby d2_6) rfl (by decide) (cap := 4) (by decide) (by decide) (by decide) (by decide) (ad := "[B") rfl
  obtain ⟨b4, g4⟩ : ∃ z, z = h0.size := ⟨_, rfl⟩
  rw [← g4] at A4 st4 EA4
  have g_b4 : n0 ≤ b4 := Nat.le_trans Z0 (Nat.le_of_eq g4.symm)
  have sz_b4 : h0.size ≤ b4 := Nat.le_trans (Keep.refl h0 [a1]).1 (Nat.le_of_eq g4.symm)
  have Z4 : n0 ≤ h4.size := Nat.le_trans Z0 E4.1
  have K4 : Keep h0 h4 [a1] := (Keep.refl h0 [a1]).ext E4
  have fx5 : Ary Z h4 b4 .byte 4 (fun _ => (.int (0 : Int32))) := Ary.new A4 (by decide)
  refine Run.go st4 ?_
  show Run p e below s 1 4 (Q_rm2 Z a1 p2 u_gaps_a1 u_first_a1 u_last_a1 u_length_a1 h0 n0) (T4.setTop (mkF m 8 #[.val (.ref a1), .val (.int p2)] [(.ref b4), (.ref a1)]))
  have fx6 := (E_a1.ext E4)
  have fx7 := (F_gaps_a1.ext E4)
  obtain ⟨T8, h8, X8, e8, W8, st8⟩ := putF X4 hx hZ hown (host := "") (Or.inl (hw _ (List.mem_of_getElem? (i := 15) rfl))) Via.refl e4 fx7 fx6 (Or.inl (hw _ (List.mem_of_getElem? (i := 16) rfl))) (hw _ (List.mem_of_getElem? (i := 6) rfl)) (ty := (.array .byte)) (by decide) rfl rfl (g := (mkF m 8 #[.val (.ref a1), .val (.int p2)] [(.ref b4), (.ref a1)])) rfl rfl (hb hby d2_8)
  have N8 := Fr.snoc X8 N0 g_a1
  have Z8 : n0 ≤ h8.size := Nat.le_trans Z4 (Keep.of_wr W8).1
  have K8 : Keep h0 h8 [a1] := K4.wr W8 (Or.inl (List.mem_of_getElem? (i := 0) rfl))
  obtain ⟨Lg8, Xg8, Ng8⟩ := Stand_gen X8 N8
  have fx9 := fx7.same W8
  refine Run.go st8 ?_
  show Run p e below s 1 4 (Q_rm2 Z a1 p2 u_gaps_a1 u_first_a1 u_last_a1 u_length_a1 h0 n0) (T8.setTop (mkF m 11 #[.val (.ref a1), .val (.int p2)] []))
  refine Run.go (fun _ k => XS.aloadN Xg8.here hx rfl (hb hby d2_11) rfl rfl k) ?_
  show Run p e below s 1 4 (Q_rm2 Z a1 p2 u_gaps_a1 u_first_a1 u_last_a1 u_length_a1 h0 n0) (T8.setTop (mkF m 12 #[.val (.ref a1), .val (.int p2)] [(.ref a1)]))
  refine Run.go (fun _ k => XS.iloadN Xg8.here hx rfl (hb hby d2_12) rfl  k) ?_
  show Run p e below s 1 4 (Q_rm2 Z a1 p2 u_gaps_a1 u_first_a1 u_last_a1 u_length_a1 h0 n0) (T8.setTop (mkF m 13 #[.val (.ref a1), .val (.int p2)] [(.int p2), (.ref a1)]))
  have fx10 := (fx6.wr W8)
  have fx11 := ((F_first_a1.ext E4).other W8 (Or.inr (slot_ne (Or.inr (hw _ (List.mem_of_getElem? (i := 18) rfl))) (Or.inl (hw _ (List.mem_of_getElem? (i := 16) rfl))) (by decide) (t := .int) (t' := (.array .byte)) (by decide) (by decide))))
  obtain ⟨T12, h12, X12, e12, W12, st12⟩ := putF Xg8 hx hZ hown (host := "") (Or.inl (hw _ (List.mem_of_getElem? (i := 17) rfl))) Via.refl e8 fx11 fx10 (Or.inr ⟨(hw _ (List.mem_of_getElem? (i := 18) rfl)), rfl, hnm⟩) (hw _ (List.mem_of_getElem? (i := 6) rfl)) (ty := .int) (by decide) rfl rfl (g := (mkF m 13 #[.val (.ref a1), .val (.int p2)] [(.int p2), (.ref a1)])) rfl rfl (hb hby d2_13)
  have N12 := Fr.snoc X12 Ng8 g_a1
  have Z12 : n0 ≤ h12.size := Nat.le_trans Z8 (Keep.of_wr W12).1
  have K12 : Keep h0 h12 [a1] := K8.wr W12 (Or.inl (List.mem_of_getElem? (i := 0) rfl))
  obtain ⟨Lg12, Xg12, Ng12⟩ := Stand_gen X12 N12
  have fx13 := fx11.same W12
  refine Run.go st12 ?_
  show Run p e below s 1 4 (Q_rm2 Z a1 p2 u_gaps_a1 u_first_a1 u_last_a1 u_length_a1 h0 n0) (T12.setTop (mkF m 16 #[.val (.ref a1), .val (.int p2)] []))
  refine Run.go (fun _ k => XS.aloadN Xg12.here hx rfl (hb hby d2_16) rfl rfl k) ?_
  show Run p e below s 1 4 (Q_rm2 Z a1 p2 u_gaps_a1 u_first_a1 u_last_a1 u_length_a1 h0 n0) (T12.setTop (mkF m 17 #[.val (.ref a1), .val (.int p2)] [(.ref a1)]))
  refine Run.go (fun _ k => XS.iloadN Xg12.here hx rfl (hb hby d2_17) rfl  k) ?_
  show Run p e below s 1 4 (Q_rm2 Z a1 p2 u_gaps_a1 u_first_a1 u_last_a1 u_length_a1 h0 n0) (T12.setTop (mkF m 18 #[.val (.ref a1), .val (.int p2)] [(.int p2), (.ref a1)]))
  have fx14 := (fx10.wr W12)
  have fx15 := (((F_last_a1.ext E4).other W8 (Or.inr (slot_ne (Or.inl (hw _ (List.mem_of_getElem? (i := 20) rfl))) (Or.inl (hw _ (List.mem_of_getElem? (i := 16) rfl))) (by decide) (t := .int) (t' := (.array .byte)) (by decide) (by decide)))).other W12 (Or.inr (slot_ne (Or.inl (hw _ (List.mem_of_getElem? (i := 20) rfl))) (Or.inr (hw _ (List.mem_of_getElem? (i := 18) rfl))) (by decide) (t := .int) (t' := .int) (by decide) (by decide))))
  obtain ⟨T16, h16, X16, e16, W16, st16⟩ := putF Xg12 hx hZ hown (host := "") (Or.inl (hw _ (List.mem_of_getElem? (i := 19) rfl))) Via.refl e12 fx15 fx14 (Or.inl (hw _ (List.mem_of_getElem? (i := 20) rfl))) (hw _ (List.mem_of_getElem? (i := 6) rfl)) (ty := .int) (by decide) rfl rfl (g := (mkF m 18 #[.val (.ref a1), .val (.int p2)] [(.int p2), (.ref a1)])) rfl rfl (hb hby d2_18)
  have N16 := Fr.snoc X16 Ng12 g_a1
  have Z16 : n0 ≤ h16.size := Nat.le_trans Z12 (Keep.of_wr W16).1
  have K16 : Keep h0 h16 [a1] := K12.wr W16 (Or.inl (List.mem_of_getElem? (i := 0) rfl))
  obtain ⟨Lg16, Xg16, Ng16⟩ := Stand_gen X16 N16
  have fx17 := fx15.same W16
  refine Run.go st16 ?_
  show Run p e below s 1 4 (Q_rm2 Z a1 p2 u_gaps_a1 u_first_a1 u_last_a1 u_length_a1 h0 n0) (T16.setTop (mkF m 21 #[.val (.ref a1), .val (.int p2)] []))
  refine Run.ret0 Xg16 hx Bd.returns Bd.notSynchronized (hb hby d2_21) (by decide) (by decide) ?_
  show Q_rm2 Z a1 p2 u_gaps_a1 u_first_a1 u_last_a1 u_length_a1 h0 n0 _ T16.heap _
  have fx18 := (fx14.wr W16)
  have fx19 := ((fx9.other W12 (Or.inr (slot_ne (Or.inl (hw _ (List.mem_of_getElem? (i := 16) rfl))) (Or.inr (hw _ (List.mem_of_getElem? (i := 18) rfl))) (by decide) (t := (.array .byte)) (t' := .int) (by decide) (by decide)))).other W16 (Or.inr (slot_ne (Or.inl (hw _ (List.mem_of_getElem? (i := 16) rfl))) (Or.inl (hw _ (List.mem_of_getElem? (i := 20) rfl))) (by decide) (t := (.array .byte)) (t' := .int) (by decide) (by decide))))
  have fx20 := (fx13.other W16 (Or.inr (slot_ne (Or.inr (hw _ (List.mem_of_getElem? (i := 18) rfl))) (Or.inl (hw _ (List.mem_of_getElem? (i := 20) rfl))) (by decide) (t := .int) (t' := .int) (by decide) (by decide))))
  have fx21 := ((((F_length_a1.ext E4).other W8 (Or.inr (slot_ne (Or.inl (hw _ (List.mem_of_getElem? (i := 27) rfl))) (Or.inl (hw _ (List.mem_of_getElem? (i := 16) rfl))) (by decide) (t := .int) (t' := (.array .byte)) (by decide) (by decide)))).other W12 (Or.inr (slot_ne (Or.inl (hw _ (List.mem_of_getElem? (i := 27) rfl))) (Or.inr (hw _ (List.mem_of_getElem? (i := 18) rfl))) (by decide) (t := .int) (t' := .int) (by decide) (by decide)))).other W16 (Or.inr (slot_ne (Or.inl (hw _ (List.mem_of_getElem? (i := 27) rfl))) (Or.inl (hw _ (List.mem_of_getElem? (i := 20) rfl))) (by decide) (t := .int) (t' := .int) (by decide) (by decide))))
  have fx22 := (((EA4.wr W8).wr W12).wr W16)
  have fx23 := (((fx5.other W8 (Ne.symm (Nat.ne_of_lt (Nat.lt_of_lt_of_le E_a1.lt sz_b4)))).other W12 (Ne.symm (Nat.ne_of_lt (Nat.lt_of_lt_of_le E_a1.lt sz_b4)))).other W16 (Ne.symm (Nat.ne_of_lt (Nat.lt_of_lt_of_le E_a1.lt sz_b4))))
  rw [e16]
  exact ⟨b4, rfl, Ng16, K16, sz_b4, fx18, fx19, fx20, fx17, fx21, fx22, fx23⟩
theorem own_minb (n : Nat) (p : Int32) (hp : ¬ p < 0) (hn : n ≤ 16) : ¬ F_rm6 (n.toInt32) p < 0 ∧ (F_rm6 (n.toInt32) p).toNatClampNeg ≤ n ∧ (F_rm6 (n.toInt32) p).toNatClampNeg ≤ p.toNatClampNeg ∧ ∀ i, i < p.toNatClampNeg → (i < (F_rm6 (n.toInt32) p).toNatClampNeg ↔ i < n) := by
  have hz : n.toInt32.toInt = n := len_toInt (by omega)
  have e0 : (0 : Int32).toInt = 0 := rfl
  unfold F_rm6
  by_cases q : p < n.toInt32
  · simp only [if_pos q]
    rw [Int32.lt_iff_toInt_lt, hz] at q
    simp only [Int32.lt_iff_toInt_lt, Int32.toNatClampNeg] at *
    exact ⟨by omega, by omega, by omega, fun i hi => by omega⟩
  · simp only [if_neg q]
    rw [Int32.lt_iff_toInt_lt, hz] at q
    simp only [Int32.lt_iff_toInt_lt, Int32.toNatClampNeg, hz] at *
    exact ⟨by omega, by omega, by omega, fun i hi => by omega⟩
theorem d5_0 : decode jdk_65_method_121_code 0 = .ok (.iload_n 1, 1) := by decide +kernel
theorem d5_1 : decode jdk_65_method_121_code 1 = .ok (.aload_n 0, 1) := by decide +kernel
theorem d5_2 : decode jdk_65_method_121_code 2 = .ok (.arraylength, 1) := by decide +kernel
theorem d5_3 : decode jdk_65_method_121_code 3 = .ok (.if_icmp .ne 11, 3) := by decide +kernel
theorem d5_14 : decode jdk_65_method_121_code 14 = .ok (.iload_n 1, 1) := by decide +kernel
theorem d5_15 : decode jdk_65_method_121_code 15 = .ok (.newarray .byte, 2) := by decide +kernel
theorem d5_17 : decode jdk_65_method_121_code 17 = .ok (.astore_n 2, 1) := by decide +kernel
theorem d5_18 : decode jdk_65_method_121_code 18 = .ok (.aload_n 0, 1) := by decide +kernel
theorem d5_19 : decode jdk_65_method_121_code 19 = .ok (.iconst 0, 1) := by decide +kernel
theorem d5_20 : decode jdk_65_method_121_code 20 = .ok (.aload_n 2, 1) := by decide +kernel
theorem d5_21 : decode jdk_65_method_121_code 21 = .ok (.iconst 0, 1) := by decide +kernel
theorem d5_22 : decode jdk_65_method_121_code 22 = .ok (.aload_n 0, 1) := by decide +kernel
theorem d5_23 : decode jdk_65_method_121_code 23 = .ok (.arraylength, 1) := by decide +kernel
theorem d5_24 : decode jdk_65_method_121_code 24 = .ok (.iload_n 1, 1) := by decide +kernel
theorem d5_25 : decode jdk_65_method_121_code 25 = .ok (.invokestatic 304, 3) := by decide +kernel
theorem pd_0 : parseMethodDescriptor "(II)I" = some ⟨[.int, .int], some .int⟩ := by decide +kernel
theorem d5_28 : decode jdk_65_method_121_code 28 = .ok (.invokestatic 150, 3) := by decide +kernel
theorem d5_31 : decode jdk_65_method_121_code 31 = .ok (.aload_n 2, 1) := by decide +kernel
theorem d5_32 : decode jdk_65_method_121_code 32 = .ok (.areturn, 1) := by decide +kernel
def Q_rm5a (Z : State) (a1 : Addr) (p2 : Int32) (n_a1 : Nat) (f_a1 : Nat → Value) (h0 : Heap) (n0 : Nat) (v : Option Value) (h : Heap) (L : List Loc) : Prop := ∃ b : Addr, v = some (.ref b) ∧ Fr n0 L ∧ Keep h0 h [] ∧ h0.size ≤ b ∧ Exa Z h b "[B" ∧ Ary Z h b .byte p2.toNatClampNeg (fun i => if i < n_a1 then f_a1 i else (.int (0 : Int32)))
theorem ef_rm5a (m : MethodId) (x0 : Addr) (x1 : Int32) : entryFrame m #[(.ref x0), (.int x1)] 3 = mkF m 0 #[.val (.ref x0), .val (.int x1), .unset] [] := by first | (simp [entryFrame, mkF, argsToLocals, Value.category]; done) | rfl
theorem pn_1 : plainName "java/util/Arrays" = true := by first | (simp [plainName, overriddenIn]; done) | decide +kernel
set_option maxRecDepth 65536 in
set_option maxHeartbeats 40000000 in
theorem rm5a (l : Launch) (Z : State) (a0 : Array Value) (hw : ∀ d ∈ tables_1, d.before a0 Z = true) (ws : List Jvm.Cond) (a1 : Addr) (p2 : Int32) (n_a1 : Nat) (f_a1 : Nat → Value) (h0 : Heap) (n0 : Nat) (Z0 : n0 ≤ h0.size) (A_a1 : Ary Z h0 a1 .byte n_a1 f_a1) (E_a1 : Exa Z h0 a1 "[B") (hn : n_a1 ≤ 16) (hp0 : ¬ p2 < 0) (hcap : p2.toNatClampNeg ≤ 16) (hB : IsB n_a1 f_a1) (hc3 : ¬ (p2 = (n_a1.toInt32))) :
    MetFree l (⟨"java/util/Arrays", "copyOf", "([BI)[B"⟩ : MethodName) (head1 (Jvm.Cond.code (⟨"java/util/Arrays", "copyOf", "([BI)[B"⟩ : MethodName) jdk_65_method_121_code 3 (some (.array .byte)) :: ws) ({ frames := 1, cells := 1, slots := 16, locals := 18 } : Room)) (fun a U => a = #[(.ref a1), (.int p2)] ∧ Z.Warmed39 U.vm ∧ U.heap = h0) (fun _ _ _ _ _ => True) (fun _ U o U' => ∃ v L, o = .returned v ∧ Q_rm5a Z a1 p2 n_a1 f_a1 h0 n0 v U'.heap L ∧ FrameEnd U o U' L ({ frames := 1, cells := 1, slots := 16, locals := 18 } : Room).cells ({ frames := 1, cells := 1, slots := 16, locals := 18 } : Room).slots) := by
  refine MetFree.of_bodySF (plainFor_of_name pn_1) hisR ?_
  intro p e s m args below meth c s₁ Bd hml0 hP hK
  obtain ⟨rfl, hZ, hh⟩ := hP
  have hx := Bd.exec
  have hby := Bd.bytes
  have hml : c.maxLocals = 3 := hml0
  have hown : s.vm.findClass "java/util/Arrays" = some m.cls := findClass_of_methodNamed Bd.named
  have hnm := (name_of_methodNamed Bd.named Bd.method).1
  have X0 : Stand p l e ({ frames := 1, cells := 1, slots := 16, locals := 18 } : Room) s m #[(.ref a1), (.int p2)] below meth c s₁ [] 0 0 := Stand.of_body Bd
  have e0 : s₁.heap = h0 := by rw [← hh, Bd.state]; rfl
  have N0 := Fr.nil n0
  show Run p e below s 1 16 (Q_rm5a Z a1 p2 n_a1 f_a1 h0 n0) (s₁.setTop (entryFrame m #[(.ref a1), (.int p2)] 3))
  refine Run.go (fun _ k => castTop (ef_rm5a m a1 p2) k) ?_
  show Run p e below s 1 16 (Q_rm5a Z a1 p2 n_a1 f_a1 h0 n0) (s₁.setTop (mkF m 0 #[.val (.ref a1), .val (.int p2), .unset] []))
  refine Run.go (fun _ k => XS.iloadN X0.here hx rfl (hb hby d5_0) rfl  k) ?_
  show Run p e below s 1 16 (Q_rm5a Z a1 p2 n_a1 f_a1 h0 n0) (s₁.setTop (mkF m 1 #[.val (.ref a1), .val (.int p2), .unset] [(.int p2)]))
  refine Run.go (fun _ k => XS.aloadN X0.here hx rfl (hb hby d5_1) rfl rfl k) ?_
  show Run p e below s 1 16 (Q_rm5a Z a1 p2 n_a1 f_a1 h0 n0) (s₁.setTop (mkF m 2 #[.val (.ref a1), .val (.int p2), .unset] [(.ref a1), (.int p2)]))
  refine Run.go (fun _ k => ary_len X0 hx hZ e0 A_a1 (g := (mkF m 2 #[.val (.ref a1), .val (.int p2), .unset] [(.ref a1), (.int p2)])) rfl rfl (hb hby d5_2) (z := (n_a1.toInt32)) rfl _ k) ?_
  show Run p e below s 1 16 (Q_rm5a Z a1 p2 n_a1 f_a1 h0 n0) (s₁.setTop (mkF m 3 #[.val (.ref a1), .val (.int p2), .unset] [(.int (n_a1.toInt32)), (.int p2)]))
  refine Run.go (fun _ k => XS.icmpYes X0.here hx rfl (pc0 := 3) (pc' := 14) rfl (hb hby d5_3) rfl (feq hc3).2 (by decide) (by decide) k) ?_
  show Run p e below s 1 16 (Q_rm5a Z a1 p2 n_a1 f_a1 h0 n0) (s₁.setTop (mkF m 14 #[.val (.ref a1), .val (.int p2), .unset] []))
  refine Run.go (fun _ k => XS.iloadN X0.here hx rfl (hb hby d5_14) rfl  k) ?_
  show Run p e below s 1 16 (Q_rm5a Z a1 p2 n_a1 f_a1 h0 n0) (s₁.setTop (mkF m 15 #[.val (.ref a1), .val (.int p2), .unset] [(.int p2)]))
  obtain ⟨T3, h3, k3, X3, e3, E3, A3, EA3, st3⟩ := newPE X0 hx hZ (hw _ (List.mem_of_getElem? (i := 14) rfl)) e0 (g := (mkF m 15 #[.val (.ref a1), .val (.int p2), .unset] [(.int p2)])) rfl (hb hby d5_15) rfl hp0 (cap := 16) hcap (by decide) (by decide) (by decide) (ad := "[B") rfl
  obtain ⟨b3, g3⟩ : ∃ z, z = h0.size := ⟨_, rfl⟩
  rw [← g3] at A3 st3 EA3
  have g_b3 : n0 ≤ b3 := Nat.le_trans Z0 (Nat.le_of_eq g3.symm)
  have sz_b3 : h0.size ≤ b3 := Nat.le_trans (Keep.refl h0 []).1 (Nat.le_of_eq g3.symm)
  have Z3 : n0 ≤ h3.size := Nat.le_trans Z0 E3.1
  have K3 : Keep h0 h3 [] := (Keep.refl h0 []).ext E3
  have ne_a1_b3 : a1 ≠ b3 := Nat.ne_of_lt (Nat.lt_of_lt_of_le A_a1.lt (Nat.le_of_eq g3.symm))
  have fx4 : Ary Z h3 b3 .byte p2.toNatClampNeg (fun _ => (.int (0 : Int32))) := Ary.new A3 rfl
  refine Run.go st3 ?_
  show Run p e below s 1 16 (Q_rm5a Z a1 p2 n_a1 f_a1 h0 n0) (T3.setTop (mkF m 17 #[.val (.ref a1), .val (.int p2), .unset] [(.ref b3)]))
  refine Run.go (fun _ k => XS.astoreN X3.here hx rfl (hb hby d5_17) rfl rfl (l' := #[.val (.ref a1), .val (.int p2), .val (.ref b3)]) rfl k) ?_
  show Run p e below s 1 16 (Q_rm5a Z a1 p2 n_a1 f_a1 h0 n0) (T3.setTop (mkF m 18 #[.val (.ref a1), .val (.int p2), .val (.ref b3)] []))
  refine Run.go (fun _ k => XS.aloadN X3.here hx rfl (hb hby d5_18) rfl rfl k) ?_
  show Run p e below s 1 16 (Q_rm5a Z a1 p2 n_a1 f_a1 h0 n0) (T3.setTop (mkF m 19 #[.val (.ref a1), .val (.int p2), .val (.ref b3)] [(.ref a1)]))
  refine Run.go (fun _ k => XS.iconst X3.here hx rfl (hb hby d5_19) k) ?_
  show Run p e below s 1 16 (Q_rm5a Z a1 p2 n_a1 f_a1 h0 n0) (T3.setTop (mkF m 20 #[.val (.ref a1), .val (.int p2), .val (.ref b3)] [(.int (0 : Int32)), (.ref a1)]))
  refine Run.go (fun _ k => XS.aloadN X3.here hx rfl (hb hby d5_20) rfl rfl k) ?_
  show Run p e below s 1 16 (Q_rm5a Z a1 p2 n_a1 f_a1 h0 n0) (T3.setTop (mkF m 21 #[.val (.ref a1), .val (.int p2), .val (.ref b3)] [(.ref b3), (.int (0 : Int32)), (.ref a1)]))
  refine Run.go (fun _ k => XS.iconst X3.here hx rfl (hb hby d5_21) k) ?_
  show Run p e below s 1 16 (Q_rm5a Z a1 p2 n_a1 f_a1 h0 n0) (T3.setTop (mkF m 22 #[.val (.ref a1), .val (.int p2), .val (.ref b3)] [(.int (0 : Int32)), (.ref b3), (.int (0 : Int32)), (.ref a1)]))
  refine Run.go (fun _ k => XS.aloadN X3.here hx rfl (hb hby d5_22) rfl rfl k) ?_
  show Run p e below s 1 16 (Q_rm5a Z a1 p2 n_a1 f_a1 h0 n0) (T3.setTop (mkF m 23 #[.val (.ref a1), .val (.int p2), .val (.ref b3)] [(.ref a1), (.int (0 : Int32)), (.ref b3), (.int (0 : Int32)), (.ref a1)]))
  have fx5 := (A_a1.ext E3)
  refine Run.go (fun _ k => ary_len X3 hx hZ e3 fx5 (g := (mkF m 23 #[.val (.ref a1), .val (.int p2), .val (.ref b3)] [(.ref a1), (.int (0 : Int32)), (.ref b3), (.int (0 : Int32)), (.ref a1)])) rfl rfl (hb hby d5_23) (z := (n_a1.toInt32)) rfl _ k) ?_
  show Run p e below s 1 16 (Q_rm5a Z a1 p2 n_a1 f_a1 h0 n0) (T3.setTop (mkF m 24 #[.val (.ref a1), .val (.int p2), .val (.ref b3)] [(.int (n_a1.toInt32)), (.int (0 : Int32)), (.ref b3), (.int (0 : Int32)), (.ref a1)]))
  refine Run.go (fun _ k => XS.iloadN X3.here hx rfl (hb hby d5_24) rfl  k) ?_
  show Run p e below s 1 16 (Q_rm5a Z a1 p2 n_a1 f_a1 h0 n0) (T3.setTop (mkF m 25 #[.val (.ref a1), .val (.int p2), .val (.ref b3)] [(.int p2), (.int (n_a1.toInt32)), (.int (0 : Int32)), (.ref b3), (.int (0 : Int32)), (.ref a1)]))
  obtain ⟨_, _, ⟨T6, L6, k6, n6⟩, -, X6, ⟨Lc6, hQ6, l6, y6, z6⟩, st6⟩ := Jvm.LawKit.callS X3 hx (y := (⟨"java/lang/Math", "min", "(II)I"⟩ : MethodName)) hown (mvT hZ (hw _ (List.mem_of_getElem? (i := 32) rfl))) (mvT hZ (hw _ (List.mem_of_getElem? (i := 33) rfl))) (mvT hZ (hw _ (List.mem_of_getElem? (i := 3) rfl))) (mvT hZ (hw _ (List.mem_of_getElem? (i := 34) rfl))) (by decide) (backOf (W := 4) (rm6 l Z a0 hw [] (n_a1.toInt32) p2 h3 n0 Z3 ) hZ (hw _ (List.mem_of_getElem? (i := 34) rfl)) (hw _ (List.mem_of_getElem? (i := 3) rfl)) (by decide) (by decide)) (g := (mkF m 25 #[.val (.ref a1), .val (.int p2), .val (.ref b3)] [(.int p2), (.int (n_a1.toInt32)), (.int (0 : Int32)), (.ref b3), (.int (0 : Int32)), (.ref a1)])) rfl (by rw [hml]; rfl) (argsL := [(.int (n_a1.toInt32)), (.int p2)]) (rest := [(.int (0 : Int32)), (.ref b3), (.int (0 : Int32)), (.ref a1)]) (lenOf pd_0 rfl) rfl (by show 2 * 0 + _ ≤ _; exact Nat.le_of_eq rfl) (hb hby d5_25) (fun _ _ => ⟨rfl, e3, (by decide : 1 + 0 ≤ _), (by decide : 16 + 0 ≤ _)⟩)
  dsimp only [Pt.U, Pt.locs, Pt.cells, Pt.slots] at X6 l6 y6 z6 st6 hQ6
  subst l6 y6 z6
  obtain ⟨rfl, N6q, e6q⟩ := hQ6
  have N6 := Fr.app N0 N6q
  obtain ⟨Lg6, Xg6, Ng6⟩ := Stand_gen X6 N6
  refine Run.go st6 ?_
  show Run p e below s 1 16 (Q_rm5a Z a1 p2 n_a1 f_a1 h0 n0) (T6.setTop (mkF m 28 #[.val (.ref a1), .val (.int p2), .val (.ref b3)] [(.int (F_rm6 (n_a1.toInt32) p2)), (.int (0 : Int32)), (.ref b3), (.int (0 : Int32)), (.ref a1)]))
  obtain ⟨T7, h7, L7, X7, e7, N7, K7q, B7, st7⟩ := ary_copy Xg6 hx hZ hown (hw _ (List.mem_of_getElem? (i := 35) rfl)) (hw _ (List.mem_of_getElem? (i := 38) rfl)) (hw _ (List.mem_of_getElem? (i := 36) rfl)) (hw _ (List.mem_of_getElem? (i := 37) rfl)) e6q fx5 fx4 rfl (by omega) (by omega) hB.fits (fun _ _ => rfl) (nn := (F_rm6 (n_a1.toInt32) p2)) (own_minb _ _ hp0 hn).1 (own_minb _ _ hp0 hn).2.1 (own_minb _ _ hp0 hn).2.2.1 Ng6 g_b3 (g := (mkF m 28 #[.val (.ref a1), .val (.int p2), .val (.ref b3)] [(.int (F_rm6 (n_a1.toInt32) p2)), (.int (0 : Int32)), (.ref b3), (.int (0 : Int32)), (.ref a1)])) rfl (by rw [hml]; rfl) rfl (hb hby d5_28) (by decide) (W := 0) (by show 2 * 0 + _ ≤ _; exact Nat.le_of_eq rfl) (by decide)
  have fx8 : Ary Z h7 b3 .byte p2.toNatClampNeg (fun i => if i < n_a1 then f_a1 i else (.int (0 : Int32))) := B7.congr (fun i hi => by by_cases q : i < n_a1 <;> simp [(own_minb _ _ hp0 hn).2.2.2 i hi, q])
  have K7 : Keep h0 h7 [] := K3.trans K7q (allS (Or.inr sz_b3) all0)
  have Z7 : n0 ≤ h7.size := Nat.le_trans Z3 K7q.1
  refine Run.go st7 ?_
  show Run p e below s 1 16 (Q_rm5a Z a1 p2 n_a1 f_a1 h0 n0) (T7.setTop (mkF m 31 #[.val (.ref a1), .val (.int p2), .val (.ref b3)] []))
  refine Run.go (fun _ k => XS.aloadN X7.here hx rfl (hb hby d5_31) rfl rfl k) ?_
  show Run p e below s 1 16 (Q_rm5a Z a1 p2 n_a1 f_a1 h0 n0) (T7.setTop (mkF m 32 #[.val (.ref a1), .val (.int p2), .val (.ref b3)] [(.ref b3)]))
  refine Run.retA X7 hx rfl Bd.returns rfl Bd.notSynchronized (hb hby d5_32) (by decide) (by decide) ?_
  show Q_rm5a Z a1 p2 n_a1 f_a1 h0 n0 _ T7.heap _
  have fx9 := (EA3.keep K7q)
  rw [e7]
  exact ⟨_, rfl, N7, K7, sz_b3, fx9, fx8⟩
theorem d5_6 : decode jdk_65_method_121_code 6 = .ok (.aload_n 0, 1) := by decide +kernel
theorem d5_7 : decode jdk_65_method_121_code 7 = .ok (.invokevirtual 310, 3) := by decide +kernel
theorem d5_10 : decode jdk_65_method_121_code 10 = .ok (.checkcast 311, 3) := by decide +kernel
theorem d5_13 : decode jdk_65_method_121_code 13 = .ok (.areturn, 1) := by decide +kernel
def Q_rm5b (Z : State) (a1 : Addr) (p2 : Int32) (n_a1 : Nat) (f_a1 : Nat → Value) (h0 : Heap) (n0 : Nat) (v : Option Value) (h : Heap) (L : List Loc) : Prop := ∃ b : Addr, v = some (.ref b) ∧ Fr n0 L ∧ Keep h0 h [] ∧ h0.size ≤ b ∧ Exa Z h b "[B" ∧ Ary Z h b .byte p2.toNatClampNeg (fun i => if i < n_a1 then f_a1 i else (.int (0 : Int32)))
theorem ef_rm5b (m : MethodId) (x0 : Addr) (x1 : Int32) : entryFrame m #[(.ref x0), (.int x1)] 3 = mkF m 0 #[.val (.ref x0), .val (.int x1), .unset] [] := by first | (simp [entryFrame, mkF, argsToLocals, Value.category]; done) | rfl
set_option maxRecDepth 65536 in
set_option maxHeartbeats 40000000 in
theorem rm5b (l : Launch) (Z : State) (a0 : Array Value) (hw : ∀ d ∈ tables_1, d.before a0 Z = true) (ws : List Jvm.Cond) (a1 : Addr) (p2 : Int32) (n_a1 : Nat) (f_a1 : Nat → Value) (h0 : Heap) (n0 : Nat) (Z0 : n0 ≤ h0.size) (A_a1 : Ary Z h0 a1 .byte n_a1 f_a1) (E_a1 : Exa Z h0 a1 "[B") (hn : n_a1 ≤ 16) (hp0 : ¬ p2 < 0) (hcap : p2.toNatClampNeg ≤ 16) (hB : IsB n_a1 f_a1) (hc3 : (p2 = (n_a1.toInt32))) :
    MetFree l (⟨"java/util/Arrays", "copyOf", "([BI)[B"⟩ : MethodName) (head1 (Jvm.Cond.code (⟨"java/util/Arrays", "copyOf", "([BI)[B"⟩ : MethodName) jdk_65_method_121_code 3 (some (.array .byte)) :: ws) ({ frames := 1, cells := 1, slots := 16, locals := 18 } : Room)) (fun a U => a = #[(.ref a1), (.int p2)] ∧ Z.Warmed39 U.vm ∧ U.heap = h0) (fun _ _ _ _ _ => True) (fun _ U o U' => ∃ v L, o = .returned v ∧ Q_rm5b Z a1 p2 n_a1 f_a1 h0 n0 v U'.heap L ∧ FrameEnd U o U' L ({ frames := 1, cells := 1, slots := 16, locals := 18 } : Room).cells ({ frames := 1, cells := 1, slots := 16, locals := 18 } : Room).slots) := by
  refine MetFree.of_bodySF (plainFor_of_name pn_1) hisR ?_
  intro p e s m args below meth c s₁ Bd hml0 hP hK
  obtain ⟨rfl, hZ, hh⟩ := hP
  have hx := Bd.exec
  have hby := Bd.bytes
  have hml : c.maxLocals = 3 := hml0
  have hown : s.vm.findClass "java/util/Arrays" = some m.cls := findClass_of_methodNamed Bd.named
  have hnm := (name_of_methodNamed Bd.named Bd.method).1
  have X0 : Stand p l e ({ frames := 1, cells := 1, slots := 16, locals := 18 } : Room) s m #[(.ref a1), (.int p2)] below meth c s₁ [] 0 0 := Stand.of_body Bd
  have e0 : s₁.heap = h0 := by rw [← hh, Bd.state]; rfl
  have N0 := Fr.nil n0
  show Run p e below s 1 16 (Q_rm5b Z a1 p2 n_a1 f_a1 h0 n0) (s₁.setTop (entryFrame m #[(.ref a1), (.int p2)] 3))
  refine Run.go (fun _ k => castTop (ef_rm5b m a1 p2) k) ?_
  show Run p e below s 1 16 (Q_rm5b Z a1 p2 n_a1 f_a1 h0 n0) (s₁.setTop (mkF m 0 #[.val (.ref a1), .val (.int p2), .unset] []))
  refine Run.go (fun _ k => XS.iloadN X0.here hx rfl (hb hby d5_0) rfl  k) ?_
  show Run p e below s 1 16 (Q_rm5b Z a1 p2 n_a1 f_a1 h0 n0) (s₁.setTop (mkF m 1 #[.val (.ref a1), .val (.int p2), .unset] [(.int p2)]))
  refine Run.go (fun _ k => XS.aloadN X0.here hx rfl (hb hby d5_1) rfl rfl k) ?_
  show Run p e below s 1 16 (Q_rm5b Z a1 p2 n_a1 f_a1 h0 n0) (s₁.setTop (mkF m 2 #[.val (.ref a1), .val (.int p2), .unset] [(.ref a1), (.int p2)]))
  refine Run.go (fun _ k => ary_len X0 hx hZ e0 A_a1 (g := (mkF m 2 #[.val (.ref a1), .val (.int p2), .unset] [(.ref a1), (.int p2)])) rfl rfl (hb hby d5_2) (z := (n_a1.toInt32)) rfl _ k) ?_
  show Run p e below s 1 16 (Q_rm5b Z a1 p2 n_a1 f_a1 h0 n0) (s₁.setTop (mkF m 3 #[.val (.ref a1), .val (.int p2), .unset] [(.int (n_a1.toInt32)), (.int p2)]))
  refine Run.go (fun _ k => XS.icmpNo X0.here hx rfl (hb hby d5_3) rfl (teq hc3).2 k) ?_
  show Run p e below s 1 16 (Q_rm5b Z a1 p2 n_a1 f_a1 h0 n0) (s₁.setTop (mkF m 6 #[.val (.ref a1), .val (.int p2), .unset] []))
  refine Run.go (fun _ k => XS.aloadN X0.here hx rfl (hb hby d5_6) rfl rfl k) ?_
  show Run p e below s 1 16 (Q_rm5b Z a1 p2 n_a1 f_a1 h0 n0) (s₁.setTop (mkF m 7 #[.val (.ref a1), .val (.int p2), .unset] [(.ref a1)]))
  obtain ⟨T3, h3, X3, e3, E3, A3, EA3, st3⟩ := ary_clone X0 hx hZ hown (hw _ (List.mem_of_getElem? (i := 55) rfl)) (hw _ (List.mem_of_getElem? (i := 56) rfl)) (hw _ (List.mem_of_getElem? (i := 60) rfl)) (hw _ (List.mem_of_getElem? (i := 58) rfl)) (hw _ (List.mem_of_getElem? (i := 59) rfl)) (hw _ (List.mem_of_getElem? (i := 61) rfl)) e0 A_a1 E_a1 hB.fits (g := (mkF m 7 #[.val (.ref a1), .val (.int p2), .unset] [(.ref a1)])) rfl (by rw [hml]; rfl) rfl (hb hby d5_7) (by decide) (W := 0) (by show 2 * 0 + _ ≤ _; exact Nat.le_of_eq rfl) (by decide) (cap := 16) hn (by decide) (by decide)
  obtain ⟨b3, g3⟩ : ∃ z, z = h0.size := ⟨_, rfl⟩
  rw [← g3] at A3 EA3 st3
  have g_b3 : n0 ≤ b3 := Nat.le_trans Z0 (Nat.le_of_eq g3.symm)
  have sz_b3 : h0.size ≤ b3 := Nat.le_trans (Keep.refl h0 []).1 (Nat.le_of_eq g3.symm)
  have Z3 : n0 ≤ h3.size := Nat.le_trans Z0 E3.1
  have K3 : Keep h0 h3 [] := (Keep.refl h0 []).ext E3
  have ne_a1_b3 : a1 ≠ b3 := Nat.ne_of_lt (Nat.lt_of_lt_of_le A_a1.lt (Nat.le_of_eq g3.symm))
  refine Run.go st3 ?_
  show Run p e below s 1 16 (Q_rm5b Z a1 p2 n_a1 f_a1 h0 n0) (T3.setTop (mkF m 10 #[.val (.ref a1), .val (.int p2), .unset] [(.ref b3)]))
  obtain ⟨T4, X4, e4, st4⟩ := castY X3 hx hZ hown (hw _ (List.mem_of_getElem? (i := 62) rfl)) e3 (Ins.self EA3) (g := (mkF m 10 #[.val (.ref a1), .val (.int p2), .unset] [(.ref b3)])) rfl rfl (hb hby d5_10)
  refine Run.go st4 ?_
  show Run p e below s 1 16 (Q_rm5b Z a1 p2 n_a1 f_a1 h0 n0) (T4.setTop (mkF m 13 #[.val (.ref a1), .val (.int p2), .unset] [(.ref b3)]))
  refine Run.retA X4 hx rfl Bd.returns rfl Bd.notSynchronized (hb hby d5_13) (by decide) (by decide) ?_
  show Q_rm5b Z a1 p2 n_a1 f_a1 h0 n0 _ T4.heap _
  rw [e4]
  exact ⟨_, rfl, N0, K3, sz_b3, EA3, (own_cl A3 hc3 hn)⟩
theorem rm5 (l : Launch) (Z : State) (a0 : Array Value) (hw : ∀ d ∈ tables_1, d.before a0 Z = true) (ws : List Jvm.Cond) (a1 : Addr) (p2 : Int32) (n_a1 : Nat) (f_a1 : Nat → Value) (h0 : Heap) (n0 : Nat) (Z0 : n0 ≤ h0.size) (A_a1 : Ary Z h0 a1 .byte n_a1 f_a1) (E_a1 : Exa Z h0 a1 "[B") (hn : n_a1 ≤ 16) (hp0 : ¬ p2 < 0) (hcap : p2.toNatClampNeg ≤ 16) (hB : IsB n_a1 f_a1) :
    MetFree l (⟨"java/util/Arrays", "copyOf", "([BI)[B"⟩ : MethodName) (head1 (Jvm.Cond.code (⟨"java/util/Arrays", "copyOf", "([BI)[B"⟩ : MethodName) jdk_65_method_121_code 3 (some (.array .byte)) :: ws) ({ frames := 1, cells := 1, slots := 16, locals := 18 } : Room)) (fun a U => a = #[(.ref a1), (.int p2)] ∧ Z.Warmed39 U.vm ∧ U.heap = h0) (fun _ _ _ _ _ => True) (fun _ U o U' => ∃ v L, o = .returned v ∧ Q_rm5a Z a1 p2 n_a1 f_a1 h0 n0 v U'.heap L ∧ FrameEnd U o U' L ({ frames := 1, cells := 1, slots := 16, locals := 18 } : Room).cells ({ frames := 1, cells := 1, slots := 16, locals := 18 } : Room).slots) := by
  by_cases hc3 : p2 = (n_a1.toInt32)
  · exact rm5b l Z a0 hw ws a1 p2 n_a1 f_a1 h0 n0 Z0 A_a1 E_a1 hn hp0 hcap hB hc3
  · exact rm5a l Z a0 hw ws a1 p2 n_a1 f_a1 h0 n0 Z0 A_a1 E_a1 hn hp0 hcap hB hc3
theorem own_2l (n : Nat) (len : Int32) (h : len = (n.toInt32)) (h1 : 1 ≤ n) (h8 : n ≤ 8) : ¬ ((2 : Int32) * len) < 0 ∧ ((2 : Int32) * len).toNatClampNeg = 2 * n ∧ len.toNatClampNeg = n ∧ ¬ len < 0 := by
  have hz : n.toInt32.toInt = n := len_toInt (by omega)
  rw [← h] at hz
  have e0 : (0 : Int32).toInt = 0 := rfl
  have e2 : (2 : Int32).toInt = 2 := rfl
  have m := c_imul 2 len
  rw [e2, hz] at m
  have := rng32 ((2 : Int32) * len)
  simp only [Int32.lt_iff_toInt_lt, Int32.toNatClampNeg] at *
  omega
theorem d10_0 : decode prog_24_method_7_code 0 = .ok (.aload_n 0, 1) := by decide +kernel
theorem d10_1 : decode prog_24_method_7_code 1 = .ok (.getfield 20, 3) := by decide +kernel
theorem d10_4 : decode prog_24_method_7_code 4 = .ok (.aload_n 0, 1) := by decide +kernel
theorem d10_5 : decode prog_24_method_7_code 5 = .ok (.getfield 7, 3) := by decide +kernel
theorem d10_8 : decode prog_24_method_7_code 8 = .ok (.arraylength, 1) := by decide +kernel
theorem d10_9 : decode prog_24_method_7_code 9 = .ok (.if_icmp .ne 20, 3) := by decide +kernel
theorem d10_29 : decode prog_24_method_7_code 29 = .ok (.aload_n 0, 1) := by decide +kernel
theorem d10_30 : decode prog_24_method_7_code 30 = .ok (.getfield 7, 3) := by decide +kernel
theorem d10_33 : decode prog_24_method_7_code 33 = .ok (.aload_n 0, 1) := by decide +kernel
theorem d10_34 : decode prog_24_method_7_code 34 = .ok (.getfield 20, 3) := by decide +kernel
theorem d10_37 : decode prog_24_method_7_code 37 = .ok (.iload_n 1, 1) := by decide +kernel
theorem d10_38 : decode prog_24_method_7_code 38 = .ok (.bastore, 1) := by decide +kernel
theorem d10_39 : decode prog_24_method_7_code 39 = .ok (.aload_n 0, 1) := by decide +kernel
theorem d10_40 : decode prog_24_method_7_code 40 = .ok (.dup, 1) := by decide +kernel
theorem d10_41 : decode prog_24_method_7_code 41 = .ok (.getfield 20, 3) := by decide +kernel
theorem d10_44 : decode prog_24_method_7_code 44 = .ok (.iconst 1, 1) := by decide +kernel
theorem d10_45 : decode prog_24_method_7_code 45 = .ok (.iadd, 1) := by decide +kernel
theorem d10_46 : decode prog_24_method_7_code 46 = .ok (.putfield 20, 3) := by decide +kernel
theorem d10_49 : decode prog_24_method_7_code 49 = .ok (.return_, 1) := by decide +kernel
def Q_rm10n (Z : State) (a1 : Addr) (p2 : Int32) (g : Addr) (len : Int32) (n : Nat) (f : Nat → Value) (u_first_a1 : Value) (u_last_a1 : Value) (h0 : Heap) (n0 : Nat) (v : Option Value) (h : Heap) (L : List Loc) : Prop := v = none ∧ Fr n0 L ∧ Keep h0 h [g, a1] ∧ Exa Z h g "[B" ∧ Ary Z h g .byte n (fun i => if i = len.toNatClampNeg then (.int p2) else f i) ∧ Exa Z h a1 "com/example/subjectory/subjectory/index/Postings" ∧ Fld Z h a1 "com/example/subjectory/subjectory/index/Postings" "gaps" "[B" (.ref g) ∧ Fld Z h a1 "com/example/subjectory/subjectory/index/Postings" "length" "I" (.int (len + (1 : Int32))) ∧ Fld Z h a1 "com/example/subjectory/subjectory/index/Postings" "first" "I" u_first_a1 ∧ Fld Z h a1 "com/example/subjectory/subjectory/index/Postings" "last" "I" u_last_a1
theorem ef_rm10n (m : MethodId) (x0 : Addr) (x1 : Int32) : entryFrame m #[(.ref x0), (.int x1)] 2 = mkF m 0 #[.val (.ref x0), .val (.int x1)] [] := by first | (simp [entryFrame, mkF, argsToLocals, Value.category]; done) | rfl
set_option maxRecDepth 65536 in
set_option maxHeartbeats 40000000 in
theorem rm10n (l : Launch) (Z : State) (a0 : Array Value) (hw : ∀ d ∈ tables_1, d.before a0 Z = true) (ws : List Jvm.Cond) (a1 : Addr) (p2 : Int32) (g : Addr) (len : Int32) (n : Nat) (f : Nat → Value) (u_first_a1 : Value) (u_last_a1 : Value) (h0 : Heap) (n0 : Nat) (Z0 : n0 ≤ h0.size) (E_a1 : Exa Z h0 a1 "com/example/subjectory/subjectory/index/Postings") (F_gaps_a1 : Fld Z h0 a1 "com/example/subjectory/subjectory/index/Postings" "gaps" "[B" (.ref g)) (F_length_a1 : Fld Z h0 a1 "com/example/subjectory/subjectory/index/Postings" "length" "I" (.int len)) (E_g : Exa Z h0 g "[B") (A_g : Ary Z h0 g .byte n f) (hbb : p2.toInt8.toInt32 = p2) (hl0 : ¬ len < 0) (hin : len.toNatClampNeg < n) (hc9 : ¬ (len = (n.toInt32))) (g_g : n0 ≤ g) (g_a1 : n0 ≤ a1) (F_first_a1 : Fld Z h0 a1 "com/example/subjectory/subjectory/index/Postings" "first" "I" u_first_a1) (F_last_a1 : Fld Z h0 a1 "com/example/subjectory/subjectory/index/Postings" "last" "I" u_last_a1) :
    MetFree l (⟨"com/example/subjectory/subjectory/index/Postings", "append", "(B)V"⟩ : MethodName) (head1 (Jvm.Cond.code (⟨"com/example/subjectory/subjectory/index/Postings", "append", "(B)V"⟩ : MethodName) prog_24_method_7_code 2 none :: ws) ({ frames := 0, cells := 0, slots := 0, locals := 0 } : Room)) (fun a U => a = #[(.ref a1), (.int p2)] ∧ Z.Warmed39 U.vm ∧ U.heap = h0) (fun _ _ _ _ _ => True) (fun _ U o U' => ∃ v L, o = .returned v ∧ Q_rm10n Z a1 p2 g len n f u_first_a1 u_last_a1 h0 n0 v U'.heap L ∧ FrameEnd U o U' L ({ frames := 0, cells := 0, slots := 0, locals := 0 } : Room).cells ({ frames := 0, cells := 0, slots := 0, locals := 0 } : Room).slots) := by
  refine MetFree.of_bodySF (plainFor_of_name pn_0) hisR ?_
  intro p e s m args below meth c s₁ Bd hml0 hP hK
  obtain ⟨rfl, hZ, hh⟩ := hP
  have hx := Bd.exec
  have hby := Bd.bytes
  have hml : c.maxLocals = 2 := hml0
  have hown : s.vm.findClass "com/example/subjectory/subjectory/index/Postings" = some m.cls := findClass_of_methodNamed Bd.named
  have hnm := (name_of_methodNamed Bd.named Bd.method).1
  have X0 : Stand p l e ({ frames := 0, cells := 0, slots := 0, locals := 0 } : Room) s m #[(.ref a1), (.int p2)] below meth c s₁ [] 0 0 := Stand.of_body Bd
  have e0 : s₁.heap = h0 := by rw [← hh, Bd.state]; rfl
  have N0 := Fr.nil n0
  show Run p e below s 0 0 (Q_rm10n Z a1 p2 g len n f u_first_a1 u_last_a1 h0 n0) (s₁.setTop (entryFrame m #[(.ref a1), (.int p2)] 2))
  refine Run.go (fun _ k => castTop (ef_rm10n m a1 p2) k) ?_
  show Run p e below s 0 0 (Q_rm10n Z a1 p2 g len n f u_first_a1 u_last_a1 h0 n0) (s₁.setTop (mkF m 0 #[.val (.ref a1), .val (.int p2)] []))
  refine Run.go (fun _ k => XS.aloadN X0.here hx rfl (hb hby d10_0) rfl rfl k) ?_
  show Run p e below s 0 0 (Q_rm10n Z a1 p2 g len n f u_first_a1 u_last_a1 h0 n0) (s₁.setTop (mkF m 1 #[.val (.ref a1), .val (.int p2)] [(.ref a1)]))
  obtain ⟨T3, X3, e3, st3⟩ := getF X0 hx hZ hown (host := "") (Or.inl (hw _ (List.mem_of_getElem? (i := 26) rfl))) Via.refl e0 F_length_a1 (g := (mkF m 1 #[.val (.ref a1), .val (.int p2)] [(.ref a1)])) rfl rfl (hb hby d10_1)
  refine Run.go st3 ?_
  show Run p e below s 0 0 (Q_rm10n Z a1 p2 g len n f u_first_a1 u_last_a1 h0 n0) (T3.setTop (mkF m 4 #[.val (.ref a1), .val (.int p2)] [(.int len)]))
  refine Run.go (fun _ k => XS.aloadN X3.here hx rfl (hb hby d10_4) rfl rfl k) ?_
  show Run p e below s 0 0 (Q_rm10n Z a1 p2 g len n f u_first_a1 u_last_a1 h0 n0) (T3.setTop (mkF m 5 #[.val (.ref a1), .val (.int p2)] [(.ref a1), (.int len)]))
  obtain ⟨T4, X4, e4, st4⟩ := getF X3 hx hZ hown (host := "") (Or.inl (hw _ (List.mem_of_getElem? (i := 15) rfl))) Via.refl e3 F_gaps_a1 (g := (mkF m 5 #[.val (.ref a1), .val (.int p2)] [(.ref a1), (.int len)])) rfl rfl (hb hby d10_5)
  refine Run.go st4 ?_
  show Run p e below s 0 0 (Q_rm10n Z a1 p2 g len n f u_first_a1 u_last_a1 h0 n0) (T4.setTop (mkF m 8 #[.val (.ref a1), .val (.int p2)] [(.ref g), (.int len)]))
  refine Run.go (fun _ k => ary_len X4 hx hZ e4 A_g (g := (mkF m 8 #[.val (.ref a1), .val (.int p2)] [(.ref g), (.int len)])) rfl rfl (hb hby d10_8) (z := (n.toInt32)) rfl _ k) ?_
  show Run p e below s 0 0 (Q_rm10n Z a1 p2 g len n f u_first_a1 u_last_a1 h0 n0) (T4.setTop (mkF m 9 #[.val (.ref a1), .val (.int p2)] [(.int (n.toInt32)), (.int len)]))
  refine Run.go (fun _ k => XS.icmpYes X4.here hx rfl (pc0 := 9) (pc' := 29) rfl (hb hby d10_9) rfl (feq hc9).2 (by decide) (by decide) k) ?_
  show Run p e below s 0 0 (Q_rm10n Z a1 p2 g len n f u_first_a1 u_last_a1 h0 n0) (T4.setTop (mkF m 29 #[.val (.ref a1), .val (.int p2)] []))
  refine Run.go (fun _ k => XS.aloadN X4.here hx rfl (hb hby d10_29) rfl rfl k) ?_
  show Run p e below s 0 0 (Q_rm10n Z a1 p2 g len n f u_first_a1 u_last_a1 h0 n0) (T4.setTop (mkF m 30 #[.val (.ref a1), .val (.int p2)] [(.ref a1)]))
  obtain ⟨T5, X5, e5, st5⟩ := getF X4 hx hZ hown (host := "") (Or.inl (hw _ (List.mem_of_getElem? (i := 15) rfl))) Via.refl e4 F_gaps_a1 (g := (mkF m 30 #[.val (.ref a1), .val (.int p2)] [(.ref a1)])) rfl rfl (hb hby d10_30)
  refine Run.go st5 ?_
  show Run p e below s 0 0 (Q_rm10n Z a1 p2 g len n f u_first_a1 u_last_a1 h0 n0) (T5.setTop (mkF m 33 #[.val (.ref a1), .val (.int p2)] [(.ref g)]))
  refine Run.go (fun _ k => XS.aloadN X5.here hx rfl (hb hby d10_33) rfl rfl k) ?_
  show Run p e below s 0 0 (Q_rm10n Z a1 p2 g len n f u_first_a1 u_last_a1 h0 n0) (T5.setTop (mkF m 34 #[.val (.ref a1), .val (.int p2)] [(.ref a1), (.ref g)]))
  obtain ⟨T6, X6, e6, st6⟩ := getF X5 hx hZ hown (host := "") (Or.inl (hw _ (List.mem_of_getElem? (i := 26) rfl))) Via.refl e5 F_length_a1 (g := (mkF m 34 #[.val (.ref a1), .val (.int p2)] [(.ref a1), (.ref g)])) rfl rfl (hb hby d10_34)
  refine Run.go st6 ?_
  show Run p e below s 0 0 (Q_rm10n Z a1 p2 g len n f u_first_a1 u_last_a1 h0 n0) (T6.setTop (mkF m 37 #[.val (.ref a1), .val (.int p2)] [(.int len), (.ref g)]))
  refine Run.go (fun _ k => XS.iloadN X6.here hx rfl (hb hby d10_37) rfl  k) ?_
  show Run p e below s 0 0 (Q_rm10n Z a1 p2 g len n f u_first_a1 u_last_a1 h0 n0) (T6.setTop (mkF m 38 #[.val (.ref a1), .val (.int p2)] [(.int p2), (.int len), (.ref g)]))
  obtain ⟨T7, h7, X7, e7, W7, st7⟩ := ary_bset X6 hx hZ e6 A_g (j := len) hl0 hin (g := (mkF m 38 #[.val (.ref a1), .val (.int p2)] [(.int p2), (.int len), (.ref g)])) rfl rfl (hb hby d10_38) (y := p2) hbb
  have N7 := Fr.snoc X7 N0 g_g
  have Z7 : n0 ≤ h7.size := Nat.le_trans Z0 (Keep.of_wr W7).1
  have K7 : Keep h0 h7 [g, a1] := (Keep.refl h0 [g, a1]).wr W7 (Or.inl (List.mem_of_getElem? (i := 0) rfl))
  obtain ⟨Lg7, Xg7, Ng7⟩ := Stand_gen X7 N7
  have fx8 : Ary Z h7 g .byte n (fun i => if i = len.toNatClampNeg then (.int p2) else f i) := A_g.same W7
  refine Run.go st7 ?_
  show Run p e below s 0 0 (Q_rm10n Z a1 p2 g len n f u_first_a1 u_last_a1 h0 n0) (T7.setTop (mkF m 39 #[.val (.ref a1), .val (.int p2)] []))
  refine Run.go (fun _ k => XS.aloadN Xg7.here hx rfl (hb hby d10_39) rfl rfl k) ?_
  show Run p e below s 0 0 (Q_rm10n Z a1 p2 g len n f u_first_a1 u_last_a1 h0 n0) (T7.setTop (mkF m 40 #[.val (.ref a1), .val (.int p2)] [(.ref a1)]))
  refine Run.go (fun _ k => XS.dup Xg7.here hx rfl (hb hby d10_40) rfl rfl k) ?_
  show Run p e below s 0 0 (Q_rm10n Z a1 p2 g len n f u_first_a1 u_last_a1 h0 n0) (T7.setTop (mkF m 41 #[.val (.ref a1), .val (.int p2)] [(.ref a1), (.ref a1)]))
  have fx9 := (F_length_a1.other W7 (Or.inl (Ne.symm (Ary.ne A_g E_a1 (hw _ (List.mem_of_getElem? (i := 6) rfl))))))
  obtain ⟨T10, X10, e10, st10⟩ := getF Xg7 hx hZ hown (host := "") (Or.inl (hw _ (List.mem_of_getElem? (i := 26) rfl))) Via.refl e7 fx9 (g := (mkF m 41 #[.val (.ref a1), .val (.int p2)] [(.ref a1), (.ref a1)])) rfl rfl (hb hby d10_41)
  refine Run.go st10 ?_
  show Run p e below s 0 0 (Q_rm10n Z a1 p2 g len n f u_first_a1 u_last_a1 h0 n0) (T10.setTop (mkF m 44 #[.val (.ref a1), .val (.int p2)] [(.int len), (.ref a1)]))
  refine Run.go (fun _ k => XS.iconst X10.here hx rfl (hb hby d10_44) k) ?_
  show Run p e below s 0 0 (Q_rm10n Z a1 p2 g len n f u_first_a1 u_last_a1 h0 n0) (T10.setTop (mkF m 45 #[.val (.ref a1), .val (.int p2)] [(.int (1 : Int32)), (.int len), (.ref a1)]))
  refine Run.go (fun _ k => XS.iadd X10.here hx rfl (hb hby d10_45) rfl k) ?_
  show Run p e below s 0 0 (Q_rm10n Z a1 p2 g len n f u_first_a1 u_last_a1 h0 n0) (T10.setTop (mkF m 46 #[.val (.ref a1), .val (.int p2)] [(.int (len + (1 : Int32))), (.ref a1)]))
  have fx11 := (E_a1.wr W7)
  obtain ⟨T12, h12, X12, e12, W12, st12⟩ := putF X10 hx hZ hown (host := "") (Or.inl (hw _ (List.mem_of_getElem? (i := 26) rfl))) Via.refl e10 fx9 fx11 (Or.inl (hw _ (List.mem_of_getElem? (i := 27) rfl))) (hw _ (List.mem_of_getElem? (i := 6) rfl)) (ty := .int) (by decide) rfl rfl (g := (mkF m 46 #[.val (.ref a1), .val (.int p2)] [(.int (len + (1 : Int32))), (.ref a1)])) rfl rfl (hb hby d10_46)
  have N12 := Fr.snoc X12 Ng7 g_a1
  have Z12 : n0 ≤ h12.size := Nat.le_trans Z7 (Keep.of_wr W12).1
  have K12 : Keep h0 h12 [g, a1] := K7.wr W12 (Or.inl (List.mem_of_getElem? (i := 1) rfl))
  obtain ⟨Lg12, Xg12, Ng12⟩ := Stand_gen X12 N12
  have fx13 := fx9.same W12
  refine Run.go st12 ?_
  show Run p e below s 0 0 (Q_rm10n Z a1 p2 g len n f u_first_a1 u_last_a1 h0 n0) (T12.setTop (mkF m 49 #[.val (.ref a1), .val (.int p2)] []))
  refine Run.ret0 Xg12 hx Bd.returns Bd.notSynchronized (hb hby d10_49) (by decide) (by decide) ?_
  show Q_rm10n Z a1 p2 g len n f u_first_a1 u_last_a1 h0 n0 _ T12.heap _
  have fx14 := ((E_g.wr W7).wr W12)
  have fx15 := (fx8.other W12 (Ary.ne A_g E_a1 (hw _ (List.mem_of_getElem? (i := 6) rfl))))
  have fx16 := (fx11.wr W12)
  have fx17 := ((F_gaps_a1.other W7 (Or.inl (Ne.symm (Ary.ne A_g E_a1 (hw _ (List.mem_of_getElem? (i := 6) rfl)))))).other W12 (Or.inr (slot_ne (Or.inl (hw _ (List.mem_of_getElem? (i := 16) rfl))) (Or.inl (hw _ (List.mem_of_getElem? (i := 27) rfl))) (by decide) (t := (.array .byte)) (t' := .int) (by decide) (by decide))))
  have fx18 := ((F_first_a1.other W7 (Or.inl (Ne.symm (Ary.ne A_g E_a1 (hw _ (List.mem_of_getElem? (i := 6) rfl)))))).other W12 (Or.inr (slot_ne (Or.inr (hw _ (List.mem_of_getElem? (i := 18) rfl))) (Or.inl (hw _ (List.mem_of_getElem? (i := 27) rfl))) (by decide) (t := .int) (t' := .int) (by decide) (by decide))))
  have fx19 := ((F_last_a1.other W7 (Or.inl (Ne.symm (Ary.ne A_g E_a1 (hw _ (List.mem_of_getElem? (i := 6) rfl)))))).other W12 (Or.inr (slot_ne (Or.inl (hw _ (List.mem_of_getElem? (i := 20) rfl))) (Or.inl (hw _ (List.mem_of_getElem? (i := 27) rfl))) (by decide) (t := .int) (t' := .int) (by decide) (by decide))))
  rw [e12]
  exact ⟨rfl, Ng12, K12, fx14, fx15, fx16, fx17, fx13, fx18, fx19⟩
theorem d10_12 : decode prog_24_method_7_code 12 = .ok (.aload_n 0, 1) := by decide +kernel
theorem d10_13 : decode prog_24_method_7_code 13 = .ok (.aload_n 0, 1) := by decide +kernel
theorem d10_14 : decode prog_24_method_7_code 14 = .ok (.getfield 7, 3) := by decide +kernel
theorem d10_17 : decode prog_24_method_7_code 17 = .ok (.iconst 2, 1) := by decide +kernel
theorem d10_18 : decode prog_24_method_7_code 18 = .ok (.aload_n 0, 1) := by decide +kernel
theorem d10_19 : decode prog_24_method_7_code 19 = .ok (.getfield 20, 3) := by decide +kernel
theorem d10_22 : decode prog_24_method_7_code 22 = .ok (.imul, 1) := by decide +kernel
theorem d10_23 : decode prog_24_method_7_code 23 = .ok (.invokestatic 27, 3) := by decide +kernel
theorem pd_1 : parseMethodDescriptor "([BI)[B" = some ⟨[(.array .byte), .int], some (.array .byte)⟩ := by decide +kernel
theorem d10_26 : decode prog_24_method_7_code 26 = .ok (.putfield 7, 3) := by decide +kernel
def Q_rm10g (Z : State) (a1 : Addr) (p2 : Int32) (g : Addr) (len : Int32) (n : Nat) (f : Nat → Value) (u_first_a1 : Value) (u_last_a1 : Value) (h0 : Heap) (n0 : Nat) (v : Option Value) (h : Heap) (L : List Loc) : Prop := ∃ (b8 : Addr), v = none ∧ Fr n0 L ∧ Keep h0 h [a1] ∧ h0.size ≤ b8 ∧ Exa Z h a1 "com/example/subjectory/subjectory/index/Postings" ∧ Fld Z h a1 "com/example/subjectory/subjectory/index/Postings" "gaps" "[B" (.ref b8) ∧ Fld Z h a1 "com/example/subjectory/subjectory/index/Postings" "length" "I" (.int (len + (1 : Int32))) ∧ Fld Z h a1 "com/example/subjectory/subjectory/index/Postings" "first" "I" u_first_a1 ∧ Fld Z h a1 "com/example/subjectory/subjectory/index/Postings" "last" "I" u_last_a1 ∧ Exa Z h b8 "[B" ∧ Ary Z h b8 .byte ((2 : Int32) * len).toNatClampNeg (fun i => if i = len.toNatClampNeg then (.int p2) else (fun i => if i < n then f i else (.int (0 : Int32))) i)
theorem ef_rm10g (m : MethodId) (x0 : Addr) (x1 : Int32) : entryFrame m #[(.ref x0), (.int x1)] 2 = mkF m 0 #[.val (.ref x0), .val (.int x1)] [] := by first | (simp [entryFrame, mkF, argsToLocals, Value.category]; done) | rfl
set_option maxRecDepth 65536 in
set_option maxHeartbeats 40000000 in
theorem rm10g (l : Launch) (Z : State) (a0 : Array Value) (hw : ∀ d ∈ tables_1, d.before a0 Z = true) (ws : List Jvm.Cond) (a1 : Addr) (p2 : Int32) (g : Addr) (len : Int32) (n : Nat) (f : Nat → Value) (u_first_a1 : Value) (u_last_a1 : Value) (h0 : Heap) (n0 : Nat) (Z0 : n0 ≤ h0.size) (E_a1 : Exa Z h0 a1 "com/example/subjectory/subjectory/index/Postings") (F_gaps_a1 : Fld Z h0 a1 "com/example/subjectory/subjectory/index/Postings" "gaps" "[B" (.ref g)) (F_length_a1 : Fld Z h0 a1 "com/example/subjectory/subjectory/index/Postings" "length" "I" (.int len)) (E_g : Exa Z h0 g "[B") (A_g : Ary Z h0 g .byte n f) (hbb : p2.toInt8.toInt32 = p2) (h1 : 1 ≤ n) (h8 : n ≤ 8) (hB : IsB n f) (hc9 : (len = (n.toInt32))) (g_a1 : n0 ≤ a1) (F_first_a1 : Fld Z h0 a1 "com/example/subjectory/subjectory/index/Postings" "first" "I" u_first_a1) (F_last_a1 : Fld Z h0 a1 "com/example/subjectory/subjectory/index/Postings" "last" "I" u_last_a1) :
    MetFree l (⟨"com/example/subjectory/subjectory/index/Postings", "append", "(B)V"⟩ : MethodName) (head1 (Jvm.Cond.code (⟨"com/example/subjectory/subjectory/index/Postings", "append", "(B)V"⟩ : MethodName) prog_24_method_7_code 2 none :: ws) ({ frames := 2, cells := 1, slots := 16, locals := 33 } : Room)) (fun a U => a = #[(.ref a1), (.int p2)] ∧ Z.Warmed39 U.vm ∧ U.heap = h0) (fun _ _ _ _ _ => True) (fun _ U o U' => ∃ v L, o = .returned v ∧ Q_rm10g Z a1 p2 g len n f u_first_a1 u_last_a1 h0 n0 v U'.heap L ∧ FrameEnd U o U' L ({ frames := 2, cells := 1, slots := 16, locals := 33 } : Room).cells ({ frames := 2, cells := 1, slots := 16, locals := 33 } : Room).slots) := by
  refine MetFree.of_bodySF (plainFor_of_name pn_0) hisR ?_
  intro p e s m args below meth c s₁ Bd hml0 hP hK
  obtain ⟨rfl, hZ, hh⟩ := hP
  have hx := Bd.exec
  have hby := Bd.bytes
  have hml : c.maxLocals = 2 := hml0
  have hown : s.vm.findClass "com/example/subjectory/subjectory/index/Postings" = some m.cls := findClass_of_methodNamed Bd.named
  have hnm := (name_of_methodNamed Bd.named Bd.method).1
  have X0 : Stand p l e ({ frames := 2, cells := 1, slots := 16, locals := 33 } : Room) s m #[(.ref a1), (.int p2)] below meth c s₁ [] 0 0 := Stand.of_body Bd
  have e0 : s₁.heap = h0 := by rw [← hh, Bd.state]; rfl
  have N0 := Fr.nil n0
  show Run p e below s 1 16 (Q_rm10g Z a1 p2 g len n f u_first_a1 u_last_a1 h0 n0) (s₁.setTop (entryFrame m #[(.ref a1), (.int p2)] 2))
  refine Run.go (fun _ k => castTop (ef_rm10g m a1 p2) k) ?_
  show Run p e below s 1 16 (Q_rm10g Z a1 p2 g len n f u_first_a1 u_last_a1 h0 n0) (s₁.setTop (mkF m 0 #[.val (.ref a1), .val (.int p2)] []))
  refine Run.go (fun _ k => XS.aloadN X0.here hx rfl (hb hby d10_0) rfl rfl k) ?_
  show Run p e below s 1 16 (Q_rm10g Z a1 p2 g len n f u_first_a1 u_last_a1 h0 n0) (s₁.setTop (mkF m 1 #[.val (.ref a1), .val (.int p2)] [(.ref a1)]))
  obtain ⟨T3, X3, e3, st3⟩ := getF X0 hx hZ hown (host := "") (Or.inl (hw _ (List.mem_of_getElem? (i := 26) rfl))) Via.refl e0 F_length_a1 (g := (mkF m 1 #[.val (.ref a1), .val (.int p2)] [(.ref a1)])) rfl rfl (hb hby d10_1)
  refine Run.go st3 ?_
  show Run p e below s 1 16 (Q_rm10g Z a1 p2 g len n f u_first_a1 u_last_a1 h0 n0) (T3.setTop (mkF m 4 #[.val (.ref a1), .val (.int p2)] [(.int len)]))
  refine Run.go (fun _ k => XS.aloadN X3.here hx rfl (hb hby d10_4) rfl rfl k) ?_
  show Run p e below s 1 16 (Q_rm10g Z a1 p2 g len n f u_first_a1 u_last_a1 h0 n0) (T3.setTop (mkF m 5 #[.val (.ref a1), .val (.int p2)] [(.ref a1), (.int len)]))
  obtain ⟨T4, X4, e4, st4⟩ := getF X3 hx hZ hown (host := "") (Or.inl (hw _ (List.mem_of_getElem? (i := 15) rfl))) Via.refl e3 F_gaps_a1 (g := (mkF m 5 #[.val (.ref a1), .val (.int p2)] [(.ref a1), (.int len)])) rfl rfl (hb hby d10_5)
  refine Run.go st4 ?_
  show Run p e below s 1 16 (Q_rm10g Z a1 p2 g len n f u_first_a1 u_last_a1 h0 n0) (T4.setTop (mkF m 8 #[.val (.ref a1), .val (.int p2)] [(.ref g), (.int len)]))
  refine Run.go (fun _ k => ary_len X4 hx hZ e4 A_g (g := (mkF m 8 #[.val (.ref a1), .val (.int p2)] [(.ref g), (.int len)])) rfl rfl (hb hby d10_8) (z := (n.toInt32)) rfl _ k) ?_
  show Run p e below s 1 16 (Q_rm10g Z a1 p2 g len n f u_first_a1 u_last_a1 h0 n0) (T4.setTop (mkF m 9 #[.val (.ref a1), .val (.int p2)] [(.int (n.toInt32)), (.int len)]))
  refine Run.go (fun _ k => XS.icmpNo X4.here hx rfl (hb hby d10_9) rfl (teq hc9).2 k) ?_
  show Run p e below s 1 16 (Q_rm10g Z a1 p2 g len n f u_first_a1 u_last_a1 h0 n0) (T4.setTop (mkF m 12 #[.val (.ref a1), .val (.int p2)] []))
  refine Run.go (fun _ k => XS.aloadN X4.here hx rfl (hb hby d10_12) rfl rfl k) ?_
  show Run p e below s 1 16 (Q_rm10g Z a1 p2 g len n f u_first_a1 u_last_a1 h0 n0) (T4.setTop (mkF m 13 #[.val (.ref a1), .val (.int p2)] [(.ref a1)]))
  refine Run.go (fun _ k => XS.aloadN X4.here hx rfl (hb hby d10_13) rfl rfl k) ?_
  show Run p e below s 1 16 (Q_rm10g Z a1 p2 g len n f u_first_a1 u_last_a1 h0 n0) (T4.setTop (mkF m 14 #[.val (.ref a1), .val (.int p2)] [(.ref a1), (.ref a1)]))
  obtain ⟨T5, X5, e5, st5⟩ := getF X4 hx hZ hown (host := "") (Or.inl (hw _ (List.mem_of_getElem? (i := 15) rfl))) Via.refl e4 F_gaps_a1 (g := (mkF m 14 #[.val (.ref a1), .val (.int p2)] [(.ref a1), (.ref a1)])) rfl rfl (hb hby d10_14)
  refine Run.go st5 ?_
  show Run p e below s 1 16 (Q_rm10g Z a1 p2 g len n f u_first_a1 u_last_a1 h0 n0) (T5.setTop (mkF m 17 #[.val (.ref a1), .val (.int p2)] [(.ref g), (.ref a1)]))
  refine Run.go (fun _ k => XS.iconst X5.here hx rfl (hb hby d10_17) k) ?_
  show Run p e below s 1 16 (Q_rm10g Z a1 p2 g len n f u_first_a1 u_last_a1 h0 n0) (T5.setTop (mkF m 18 #[.val (.ref a1), .val (.int p2)] [(.int (2 : Int32)), (.ref g), (.ref a1)]))
  refine Run.go (fun _ k => XS.aloadN X5.here hx rfl (hb hby d10_18) rfl rfl k) ?_
  show Run p e below s 1 16 (Q_rm10g Z a1 p2 g len n f u_first_a1 u_last_a1 h0 n0) (T5.setTop (mkF m 19 #[.val (.ref a1), .val (.int p2)] [(.ref a1), (.int (2 : Int32)), (.ref g), (.ref a1)]))
  obtain ⟨T6, X6, e6, st6⟩ := getF X5 hx hZ hown (host := "") (Or.inl (hw _ (List.mem_of_getElem? (i := 26) rfl))) Via.refl e5 F_length_a1 (g := (mkF m 19 #[.val (.ref a1), .val (.int p2)] [(.ref a1), (.int (2 : Int32)), (.ref g), (.ref a1)])) rfl rfl (hb hby d10_19)
  refine Run.go st6 ?_
  show Run p e below s 1 16 (Q_rm10g Z a1 p2 g len n f u_first_a1 u_last_a1 h0 n0) (T6.setTop (mkF m 22 #[.val (.ref a1), .val (.int p2)] [(.int len), (.int (2 : Int32)), (.ref g), (.ref a1)]))
  refine Run.go (fun _ k => XS.imul X6.here hx rfl (hb hby d10_22) rfl k) ?_
  show Run p e below s 1 16 (Q_rm10g Z a1 p2 g len n f u_first_a1 u_last_a1 h0 n0) (T6.setTop (mkF m 23 #[.val (.ref a1), .val (.int p2)] [(.int ((2 : Int32) * len)), (.ref g), (.ref a1)]))
  obtain ⟨_, _, ⟨T7, L7, k7, n7⟩, -, X7, ⟨Lc7, hQ7, l7, y7, z7⟩, st7⟩ := Jvm.LawKit.callS X6 hx (y := (⟨"java/util/Arrays", "copyOf", "([BI)[B"⟩ : MethodName)) hown (mvT hZ (hw _ (List.mem_of_getElem? (i := 28) rfl))) (mvT hZ (hw _ (List.mem_of_getElem? (i := 29) rfl))) (mvT hZ (hw _ (List.mem_of_getElem? (i := 30) rfl))) (mvT hZ (hw _ (List.mem_of_getElem? (i := 31) rfl))) (by decide) (backOf (W := 1) (rm5 l Z a0 hw [] g ((2 : Int32) * len) n f h0 n0 Z0 A_g E_g (by omega) (own_2l _ _ hc9 h1 h8).1 (by rw [(own_2l _ _ hc9 h1 h8).2.1]; omega) hB) hZ (hw _ (List.mem_of_getElem? (i := 31) rfl)) (hw _ (List.mem_of_getElem? (i := 30) rfl)) (by decide) (by decide)) (g := (mkF m 23 #[.val (.ref a1), .val (.int p2)] [(.int ((2 : Int32) * len)), (.ref g), (.ref a1)])) rfl (by rw [hml]; rfl) (argsL := [(.ref g), (.int ((2 : Int32) * len))]) (rest := [(.ref a1)]) (lenOf pd_1 rfl) rfl (by show 2 * 0 + _ ≤ _; exact Nat.le_of_eq rfl) (hb hby d10_23) (fun _ _ => ⟨rfl, e6, (by decide : 0 + 1 ≤ _), (by decide : 0 + 16 ≤ _)⟩)
  dsimp only [Pt.U, Pt.locs, Pt.cells, Pt.slots] at X7 l7 y7 z7 st7 hQ7
  subst l7 y7 z7
  obtain ⟨b8, rfl, N7q, K7q, s_b8, fq7_0, fq7_1⟩ := hQ7
  have N7 := Fr.app N0 N7q
  have K7 : Keep h0 T7.heap [a1] := (Keep.refl h0 [a1]).trans K7q all0
  have g_b8 : n0 ≤ b8 := Nat.le_trans Z0 s_b8
  have sz_b8 : h0.size ≤ b8 := Nat.le_trans (Keep.refl h0 [a1]).1 s_b8
  have ne_a1_b8 : a1 ≠ b8 := Nat.ne_of_lt (Nat.lt_of_lt_of_le E_a1.lt s_b8)
  have ne_g_b8 : g ≠ b8 := Nat.ne_of_lt (Nat.lt_of_lt_of_le E_g.lt s_b8)
  have Z7 : n0 ≤ T7.heap.size := Nat.le_trans Z0 K7q.1
  obtain ⟨Lg7, Xg7, Ng7⟩ := Stand_gen X7 N7
  refine Run.go st7 ?_
  show Run p e below s 1 16 (Q_rm10g Z a1 p2 g len n f u_first_a1 u_last_a1 h0 n0) (T7.setTop (mkF m 26 #[.val (.ref a1), .val (.int p2)] [(.ref b8), (.ref a1)]))
  have fx9 := (E_a1.keep K7q)
  have fx10 := (F_gaps_a1.keep K7q nin0)
  obtain ⟨T11, h11, X11, e11, W11, st11⟩ := putF Xg7 hx hZ hown (host := "") (Or.inl (hw _ (List.mem_of_getElem? (i := 15) rfl))) Via.refl rfl fx10 fx9 (Or.inl (hw _ (List.mem_of_getElem? (i := 16) rfl))) (hw _ (List.mem_of_getElem? (i := 6) rfl)) (ty := (.array .byte)) (by decide) rfl rfl (g := (mkF m 26 #[.val (.ref a1), .val (.int p2)] [(.ref b8), (.ref a1)])) rfl rfl (hb hby d10_26)
  have N11 := Fr.snoc X11 Ng7 g_a1
  have Z11 : n0 ≤ h11.size := Nat.le_trans Z7 (Keep.of_wr W11).1
  have K11 : Keep h0 h11 [a1] := K7.wr W11 (Or.inl (List.mem_of_getElem? (i := 0) rfl))
  obtain ⟨Lg11, Xg11, Ng11⟩ := Stand_gen X11 N11
  have fx12 := fx10.same W11
  refine Run.go st11 ?_
  show Run p e below s 1 16 (Q_rm10g Z a1 p2 g len n f u_first_a1 u_last_a1 h0 n0) (T11.setTop (mkF m 29 #[.val (.ref a1), .val (.int p2)] []))
  refine Run.go (fun _ k => XS.aloadN Xg11.here hx rfl (hb hby d10_29) rfl rfl k) ?_
  show Run p e below s 1 16 (Q_rm10g Z a1 p2 g len n f u_first_a1 u_last_a1 h0 n0) (T11.setTop (mkF m 30 #[.val (.ref a1), .val (.int p2)] [(.ref a1)]))
  obtain ⟨T13, X13, e13, st13⟩ := getF Xg11 hx hZ hown (host := "") (Or.inl (hw _ (List.mem_of_getElem? (i := 15) rfl))) Via.refl e11 fx12 (g := (mkF m 30 #[.val (.ref a1), .val (.int p2)] [(.ref a1)])) rfl rfl (hb hby d10_30)
  refine Run.go st13 ?_
  show Run p e below s 1 16 (Q_rm10g Z a1 p2 g len n f u_first_a1 u_last_a1 h0 n0) (T13.setTop (mkF m 33 #[.val (.ref a1), .val (.int p2)] [(.ref b8)]))
  refine Run.go (fun _ k => XS.aloadN X13.here hx rfl (hb hby d10_33) rfl rfl k) ?_
  show Run p e below s 1 16 (Q_rm10g Z a1 p2 g len n f u_first_a1 u_last_a1 h0 n0) (T13.setTop (mkF m 34 #[.val (.ref a1), .val (.int p2)] [(.ref a1), (.ref b8)]))
  have fx14 := ((F_length_a1.keep K7q nin0).other W11 (Or.inr (slot_ne (Or.inl (hw _ (List.mem_of_getElem? (i := 27) rfl))) (Or.inl (hw _ (List.mem_of_getElem? (i := 16) rfl))) (by decide) (t := .int) (t' := (.array .byte)) (by decide) (by decide))))
  obtain ⟨T15, X15, e15, st15⟩ := getF X13 hx hZ hown (host := "") (Or.inl (hw _ (List.mem_of_getElem? (i := 26) rfl))) Via.refl e13 fx14 (g := (mkF m 34 #[.val (.ref a1), .val (.int p2)] [(.ref a1), (.ref b8)])) rfl rfl (hb hby d10_34)
  refine Run.go st15 ?_
  show Run p e below s 1 16 (Q_rm10g Z a1 p2 g len n f u_first_a1 u_last_a1 h0 n0) (T15.setTop (mkF m 37 #[.val (.ref a1), .val (.int p2)] [(.int len), (.ref b8)]))
  refine Run.go (fun _ k => XS.iloadN X15.here hx rfl (hb hby d10_37) rfl  k) ?_
  show Run p e below s 1 16 (Q_rm10g Z a1 p2 g len n f u_first_a1 u_last_a1 h0 n0) (T15.setTop (mkF m 38 #[.val (.ref a1), .val (.int p2)] [(.int p2), (.int len), (.ref b8)]))
  have fx16 := (fq7_1.other W11 (Ne.symm ne_a1_b8))
  obtain ⟨T17, h17, X17, e17, W17, st17⟩ := ary_bset X15 hx hZ e15 fx16 (j := len) (own_2l _ _ hc9 h1 h8).2.2.2 (by rw [(own_2l _ _ hc9 h1 h8).2.1, (own_2l _ _ hc9 h1 h8).2.2.1]; omega) (g := (mkF m 38 #[.val (.ref a1), .val (.int p2)] [(.int p2), (.int len), (.ref b8)])) rfl rfl (hb hby d10_38) (y := p2) hbb
  have N17 := Fr.snoc X17 Ng11 g_b8
  have Z17 : n0 ≤ h17.size := Nat.le_trans Z11 (Keep.of_wr W17).1
  have K17 : Keep h0 h17 [a1] := K11.wr W17 (Or.inr sz_b8)
  obtain ⟨Lg17, Xg17, Ng17⟩ := Stand_gen X17 N17
  have fx18 : Ary Z h17 b8 .byte ((2 : Int32) * len).toNatClampNeg (fun i => if i = len.toNatClampNeg then (.int p2) else (fun i => if i < n then f i else (.int (0 : Int32))) i) := fx16.same W17
  refine Run.go st17 ?_
  show Run p e below s 1 16 (Q_rm10g Z a1 p2 g len n f u_first_a1 u_last_a1 h0 n0) (T17.setTop (mkF m 39 #[.val (.ref a1), .val (.int p2)] []))
  refine Run.go (fun _ k => XS.aloadN Xg17.here hx rfl (hb hby d10_39) rfl rfl k) ?_
  show Run p e below s 1 16 (Q_rm10g Z a1 p2 g len n f u_first_a1 u_last_a1 h0 n0) (T17.setTop (mkF m 40 #[.val (.ref a1), .val (.int p2)] [(.ref a1)]))
  refine Run.go (fun _ k => XS.dup Xg17.here hx rfl (hb hby d10_40) rfl rfl k) ?_
  show Run p e below s 1 16 (Q_rm10g Z a1 p2 g len n f u_first_a1 u_last_a1 h0 n0) (T17.setTop (mkF m 41 #[.val (.ref a1), .val (.int p2)] [(.ref a1), (.ref a1)]))
  have fx19 := (fx14.other W17 (Or.inl ne_a1_b8))
  obtain ⟨T20, X20, e20, st20⟩ := getF Xg17 hx hZ hown (host := "") (Or.inl (hw _ (List.mem_of_getElem? (i := 26) rfl))) Via.refl e17 fx19 (g := (mkF m 41 #[.val (.ref a1), .val (.int p2)] [(.ref a1), (.ref a1)])) rfl rfl (hb hby d10_41)
  refine Run.go st20 ?_
  show Run p e below s 1 16 (Q_rm10g Z a1 p2 g len n f u_first_a1 u_last_a1 h0 n0) (T20.setTop (mkF m 44 #[.val (.ref a1), .val (.int p2)] [(.int len), (.ref a1)]))
  refine Run.go (fun _ k => XS.iconst X20.here hx rfl (hb hby d10_44) k) ?_
  show Run p e below s 1 16 (Q_rm10g Z a1 p2 g len n f u_first_a1 u_last_a1 h0 n0) (T20.setTop (mkF m 45 #[.val (.ref a1), .val (.int p2)] [(.int (1 : Int32)), (.int len), (.ref a1)]))
  refine Run.go (fun _ k => XS.iadd X20.here hx rfl (hb hby d10_45) rfl k) ?_
  show Run p e below s 1 16 (Q_rm10g Z a1 p2 g len n f u_first_a1 u_last_a1 h0 n0) (T20.setTop (mkF m 46 #[.val (.ref a1), .val (.int p2)] [(.int (len + (1 : Int32))), (.ref a1)]))
  have fx21 := ((fx9.wr W11).wr W17)
  obtain ⟨T22, h22, X22, e22, W22, st22⟩ := putF X20 hx hZ hown (host := "") (Or.inl (hw _ (List.mem_of_getElem? (i := 26) rfl))) Via.refl e20 fx19 fx21 (Or.inl (hw _ (List.mem_of_getElem? (i := 27) rfl))) (hw _ (List.mem_of_getElem? (i := 6) rfl)) (ty := .int) (by decide) rfl rfl (g := (mkF m 46 #[.val (.ref a1), .val (.int p2)] [(.int (len + (1 : Int32))), (.ref a1)])) rfl rfl (hb hby d10_46)
  have N22 := Fr.snoc X22 Ng17 g_a1
  have Z22 : n0 ≤ h22.size := Nat.le_trans Z17 (Keep.of_wr W22).1
  have K22 : Keep h0 h22 [a1] := K17.wr W22 (Or.inl (List.mem_of_getElem? (i := 0) rfl))
  obtain ⟨Lg22, Xg22, Ng22⟩ := Stand_gen X22 N22
  have fx23 := fx19.same W22
  refine Run.go st22 ?_
  show Run p e below s 1 16 (Q_rm10g Z a1 p2 g len n f u_first_a1 u_last_a1 h0 n0) (T22.setTop (mkF m 49 #[.val (.ref a1), .val (.int p2)] []))
  refine Run.ret0 Xg22 hx Bd.returns Bd.notSynchronized (hb hby d10_49) (by decide) (by decide) ?_
  show Q_rm10g Z a1 p2 g len n f u_first_a1 u_last_a1 h0 n0 _ T22.heap _
  have fx24 := (fx21.wr W22)
  have fx25 := ((fx12.other W17 (Or.inl ne_a1_b8)).other W22 (Or.inr (slot_ne (Or.inl (hw _ (List.mem_of_getElem? (i := 16) rfl))) (Or.inl (hw _ (List.mem_of_getElem? (i := 27) rfl))) (by decide) (t := (.array .byte)) (t' := .int) (by decide) (by decide))))
  have fx26 := ((((F_first_a1.keep K7q nin0).other W11 (Or.inr (slot_ne (Or.inr (hw _ (List.mem_of_getElem? (i := 18) rfl))) (Or.inl (hw _ (List.mem_of_getElem? (i := 16) rfl))) (by decide) (t := .int) (t' := (.array .byte)) (by decide) (by decide)))).other W17 (Or.inl ne_a1_b8)).other W22 (Or.inr (slot_ne (Or.inr (hw _ (List.mem_of_getElem? (i := 18) rfl))) (Or.inl (hw _ (List.mem_of_getElem? (i := 27) rfl))) (by decide) (t := .int) (t' := .int) (by decide) (by decide))))
  have fx27 := ((((F_last_a1.keep K7q nin0).other W11 (Or.inr (slot_ne (Or.inl (hw _ (List.mem_of_getElem? (i := 20) rfl))) (Or.inl (hw _ (List.mem_of_getElem? (i := 16) rfl))) (by decide) (t := .int) (t' := (.array .byte)) (by decide) (by decide)))).other W17 (Or.inl ne_a1_b8)).other W22 (Or.inr (slot_ne (Or.inl (hw _ (List.mem_of_getElem? (i := 20) rfl))) (Or.inl (hw _ (List.mem_of_getElem? (i := 27) rfl))) (by decide) (t := .int) (t' := .int) (by decide) (by decide))))
  have fx28 := (((fq7_0.wr W11).wr W17).wr W22)
  have fx29 := (fx18.other W22 (Ne.symm ne_a1_b8))
  rw [e22]
  exact ⟨b8, rfl, Ng22, K22, sz_b8, fx24, fx25, fx23, fx26, fx27, fx28, fx29⟩
def Pst (Z : State) (n0 : Nat) (h : Heap) (a : Addr) (bs : List Int32) (lst : Int32) (n : Nat) : Prop := ∃ (g : Addr) (f : Nat → Value) (fv : Value), Exa Z h a "com/example/subjectory/subjectory/index/Postings" ∧ Fld Z h a "com/example/subjectory/subjectory/index/Postings" "gaps" "[B" (.ref g) ∧ Fld Z h a "com/example/subjectory/subjectory/index/Postings" "length" "I" (.int (bs.length.toInt32)) ∧ Fld Z h a "com/example/subjectory/subjectory/index/Postings" "last" "I" (.int lst) ∧ Fld Z h a "com/example/subjectory/subjectory/index/Postings" "first" "I" fv ∧ n0 ≤ a ∧ n0 ≤ g ∧ Exa Z h g "[B" ∧ Ary Z h g .byte n f ∧ (n = 4 ∨ n = 8 ∨ n = 16) ∧ bs.length ≤ n ∧ IsB n f ∧ ∀ i (hi : i < bs.length), f i = .int bs[i]
theorem own_lenS (bs : List Int32) (x : Int32) (h : bs.length ≤ 15) : bs.length.toInt32 + (1 : Int32) = (bs ++ [x]).length.toInt32 := by
  apply Int32.toInt_inj.mp
  have h1 : bs.length.toInt32.toInt = bs.length := len_toInt (by omega)
  have h2 : (bs ++ [x]).length.toInt32.toInt = (bs ++ [x]).length := len_toInt (by simp; omega)
  have q := c_iadd bs.length.toInt32 1
  have e1 : (1 : Int32).toInt = 1 := rfl
  have := rng32 (bs.length.toInt32 + 1)
  rw [h2]
  simp only [List.length_append, List.length_singleton]
  omega
theorem own_app (bs : List Int32) (x : Int32) (f : Nat → Value) (h : ∀ i (hi : i < bs.length), f i = .int bs[i]) (hx : f bs.length = .int x) : ∀ i (hi : i < (bs ++ [x]).length), f i = .int (bs ++ [x])[i] := by
  intro i hi
  by_cases q : i < bs.length
  · rw [h i q, List.getElem_append_left q]
  · have e : i = bs.length := by simp at hi; omega
    subst e; rw [hx]; simp
theorem own_fitb (x : Int32) (h : x.toInt8.toInt32 = x) : fits .byte (.int x) = true := by rw [← h]; exact fits_nar_byte x
def Q_rm10x (Z : State) (a1 : Addr) (p2 : Int32) (bs : List Int32) (lst : Int32) (n : Nat) (h0 : Heap) (n0 : Nat) (v : Option Value) (h : Heap) (L : List Loc) : Prop := v = none ∧ Fr n0 L ∧ (h0.size ≤ h.size ∧ True) ∧ Exa Z h a1 "com/example/subjectory/subjectory/index/Postings" ∧ Pst Z n0 h a1 (bs ++ [p2]) lst n
def Q_rm10y (Z : State) (a1 : Addr) (p2 : Int32) (bs : List Int32) (lst : Int32) (n : Nat) (h0 : Heap) (n0 : Nat) (v : Option Value) (h : Heap) (L : List Loc) : Prop := v = none ∧ Fr n0 L ∧ (h0.size ≤ h.size ∧ True) ∧ Exa Z h a1 "com/example/subjectory/subjectory/index/Postings" ∧ Pst Z n0 h a1 (bs ++ [p2]) lst (2 * n)
theorem rm10y (l : Launch) (Z : State) (a0 : Array Value) (hw : ∀ d ∈ tables_1, d.before a0 Z = true) (ws : List Jvm.Cond) (a1 : Addr) (p2 : Int32) (bs : List Int32) (lst : Int32) (n : Nat) (h0 : Heap) (n0 : Nat) (Z0 : n0 ≤ h0.size) (hP : Pst Z n0 h0 a1 bs lst n) (hbb : p2.toInt8.toInt32 = p2) (hle : bs.length ≤ 15) (q : bs.length = n) :
    MetFree l (⟨"com/example/subjectory/subjectory/index/Postings", "append", "(B)V"⟩ : MethodName) (head1 (Jvm.Cond.code (⟨"com/example/subjectory/subjectory/index/Postings", "append", "(B)V"⟩ : MethodName) prog_24_method_7_code 2 none :: ws) ({ frames := 2, cells := 1, slots := 16, locals := 33 } : Room)) (fun a U => a = #[(.ref a1), (.int p2)] ∧ Z.Warmed39 U.vm ∧ U.heap = h0) (fun _ _ _ _ _ => True) (fun _ U o U' => ∃ v L, o = .returned v ∧ Q_rm10y Z a1 p2 bs lst n h0 n0 v U'.heap L ∧ FrameEnd U o U' L ({ frames := 2, cells := 1, slots := 16, locals := 33 } : Room).cells ({ frames := 2, cells := 1, slots := 16, locals := 33 } : Room).slots) := by
  intro p e ha hc hk s m args below hf happ hP' hK
  obtain ⟨g, f, fv, E, F1, F2, F3, F4, ga, gg, Eg, A, hn, hl, hB, hv⟩ := hP
  have hz : bs.length.toInt32.toInt = bs.length := len_toInt (by omega)
  have hzn : bs.length.toInt32.toNatClampNeg = bs.length := by rw [Int32.toNatClampNeg, hz]; omega
  have hc9 : bs.length.toInt32 = (n.toInt32) := by rw [q]
  have w := own_2l n bs.length.toInt32 hc9 (by omega) (by omega)
  obtain ⟨k, o, h1, h2, h3, v, L, rfl, ⟨b, rfl, N, K, hb', E', G1, G2, G4, G3, Eb, B⟩, hF⟩ := rm10g l Z a0 hw ws a1 p2 g bs.length.toInt32 n f fv (.int lst) h0 n0 Z0 E F1 F2 Eg A hbb (by omega) (by omega) hB hc9 ga F4 F3 p e ha hc hk s m args below hf happ hP' hK
  rw [w.2.1, hzn] at B
  rw [own_lenS bs p2 hle] at G2
  refine ⟨k, _, h1, h2, h3, _, L, rfl, ⟨rfl, N, ⟨K.1, trivial⟩, E', b, _, fv, E', G1, G2, G3, G4, ga, Nat.le_trans Z0 hb', Eb, B, by omega, by simp; omega, fun i hi => ?_, own_app bs p2 _ (fun i hi => ?_) (if_pos rfl)⟩, hF⟩
  · by_cases c1 : i = bs.length
    · exact ⟨p2, if_pos c1, own_fitb _ hbb⟩
    · by_cases c2 : i < n
      · obtain ⟨x, x1, x2⟩ := hB i c2
        exact ⟨x, (if_neg c1).trans ((if_pos c2).trans x1), x2⟩
      · exact ⟨0, (if_neg c1).trans (if_neg c2), rfl⟩
  · exact (if_neg (by omega)).trans ((if_pos (by omega)).trans (hv i hi))
theorem rm10x (l : Launch) (Z : State) (a0 : Array Value) (hw : ∀ d ∈ tables_1, d.before a0 Z = true) (ws : List Jvm.Cond) (a1 : Addr) (p2 : Int32) (bs : List Int32) (lst : Int32) (n : Nat) (h0 : Heap) (n0 : Nat) (Z0 : n0 ≤ h0.size) (hP : Pst Z n0 h0 a1 bs lst n) (hbb : p2.toInt8.toInt32 = p2) (hle : bs.length ≤ 15) (q : ¬ bs.length = n) :
    MetFree l (⟨"com/example/subjectory/subjectory/index/Postings", "append", "(B)V"⟩ : MethodName) (head1 (Jvm.Cond.code (⟨"com/example/subjectory/subjectory/index/Postings", "append", "(B)V"⟩ : MethodName) prog_24_method_7_code 2 none :: ws) ({ frames := 0, cells := 0, slots := 0, locals := 0 } : Room)) (fun a U => a = #[(.ref a1), (.int p2)] ∧ Z.Warmed39 U.vm ∧ U.heap = h0) (fun _ _ _ _ _ => True) (fun _ U o U' => ∃ v L, o = .returned v ∧ Q_rm10x Z a1 p2 bs lst n h0 n0 v U'.heap L ∧ FrameEnd U o U' L ({ frames := 0, cells := 0, slots := 0, locals := 0 } : Room).cells ({ frames := 0, cells := 0, slots := 0, locals := 0 } : Room).slots) := by
  intro p e ha hc hk s m args below hf happ hP' hK
  obtain ⟨g, f, fv, E, F1, F2, F3, F4, ga, gg, Eg, A, hn, hl, hB, hv⟩ := hP
  have hz : bs.length.toInt32.toInt = bs.length := len_toInt (by omega)
  have hzn : bs.length.toInt32.toNatClampNeg = bs.length := by rw [Int32.toNatClampNeg, hz]; omega
  have hc9 : ¬ (bs.length.toInt32 = (n.toInt32)) := fun u => by
    have u2 := congrArg Int32.toInt u
    rw [hz, len_toInt (by omega : n < 2 ^ 31)] at u2
    omega
  obtain ⟨k, o, h1, h2, h3, v, L, rfl, ⟨rfl, N, K, Eg', B, E', G1, G2, G4, G3⟩, hF⟩ := rm10n l Z a0 hw ws a1 p2 g bs.length.toInt32 n f fv (.int lst) h0 n0 Z0 E F1 F2 Eg A hbb (by rw [Int32.lt_iff_toInt_lt, hz]; have : (0 : Int32).toInt = 0 := rfl; omega) (by omega) hc9 gg ga F4 F3 p e ha hc hk s m args below hf happ hP' hK
  rw [hzn] at B
  rw [own_lenS bs p2 hle] at G2
  refine ⟨k, _, h1, h2, h3, _, L, rfl, ⟨rfl, N, ⟨K.1, trivial⟩, E', g, _, fv, E', G1, G2, G3, G4, ga, gg, Eg', B, hn, by simp; omega, fun i hi => ?_, own_app bs p2 _ (fun i hi => ?_) (if_pos rfl)⟩, hF⟩
  · by_cases c1 : i = bs.length
    · exact ⟨p2, if_pos c1, own_fitb _ hbb⟩
    · obtain ⟨x, x1, x2⟩ := hB i hi
      exact ⟨x, (if_neg c1).trans x1, x2⟩
  · exact (if_neg (by omega)).trans (hv i hi)
def own_enc : Nat → Int32 → List Int32
  | 0, g => [g.toInt8.toInt32]
  | k + 1, g => if g < (128 : Int32) then [g.toInt8.toInt32] else ((g ||| (128 : Int32)).toInt8.toInt32) :: own_enc k ((g.toUInt32 >>> ((7 : Int32) &&& 31).toUInt32).toInt32)
def own_left (n : Nat) : Nat := if n = 4 then 2 else if n = 8 then 1 else 0
theorem own_encL (k : Nat) (g : Int32) (h : g < (128 : Int32)) : own_enc k g = [g.toInt8.toInt32] := by
  cases k with
  | zero => rfl
  | succ k => rw [own_enc, if_pos h]
theorem own_ek (k : Nat) (g : Int32) (h : ¬ g < (128 : Int32)) (h1 : g.toInt < 128 ^ (k + 1)) : ∃ j, k = j + 1 := by
  cases k with
  | zero =>
    rw [Int32.lt_iff_toInt_lt] at h
    have e : (128 : Int32).toInt = 128 := rfl
    omega
  | succ k => exact ⟨k, rfl⟩
theorem own_gs (k : Nat) (g : Int32) (h0 : ¬ g < 0) (h1 : g.toInt < 128 ^ (k + 1 + 1)) : ¬ ((g.toUInt32 >>> ((7 : Int32) &&& 31).toUInt32).toInt32) < 0 ∧ ((g.toUInt32 >>> ((7 : Int32) &&& 31).toUInt32).toInt32).toInt < 128 ^ (k + 1) ∧ ((g.toUInt32 >>> ((7 : Int32) &&& 31).toUInt32).toInt32).toInt = g.toInt / 128 := by
  have e := c_iushr g 7 7 (by decide) (by decide)
  have e0 : (0 : Int32).toInt = 0 := rfl
  have := rng32 g
  rw [Int32.lt_iff_toInt_lt] at h0
  have e2 : ((g.toUInt32 >>> ((7 : Int32) &&& 31).toUInt32).toInt32).toInt = g.toInt / 128 := by
    rw [e, show ((2 ^ 7 : Nat) : Int) = 128 from rfl]; omega
  refine ⟨by rw [Int32.lt_iff_toInt_lt, e2]; omega, ?_, e2⟩
  rw [e2]
  rw [Int.pow_succ] at h1
  generalize (128 : Int) ^ (k + 1) = P at *
  omega
theorem own_enclen (k : Nat) (g : Int32) : (own_enc k g).length ≤ k + 1 := by
  induction k generalizing g with
  | zero => simp [own_enc]
  | succ k ih =>
    rw [own_enc]
    split
    · simp
    · have := ih ((g.toUInt32 >>> ((7 : Int32) &&& 31).toUInt32).toInt32)
      simp only [List.length_cons]; omega
def own_run : List Int32 → Int32 → Int32 → Int32 → List Int32
  | [], _, _, _ => []
  | b :: t, o, g, sh => if b < (0 : Int32) then own_run t o (g ||| ((b &&& (127 : Int32)) <<< (sh &&& 31))) (sh + (7 : Int32)) else (o + (g ||| ((b &&& (127 : Int32)) <<< (sh &&& 31)))) :: own_run t (o + (g ||| ((b &&& (127 : Int32)) <<< (sh &&& 31)))) 0 0
def own_c (l : List Int32) : Nat := l.countP (fun b => decide (¬ b < (0 : Int32)))
theorem own_clen (l : List Int32) (o g sh : Int32) : (own_run l o g sh).length = own_c l := by
  induction l generalizing o g sh with
  | nil => rfl
  | cons b t ih =>
    rw [own_run, own_c, List.countP_cons]
    by_cases q : b < (0 : Int32)
    · rw [if_pos q, ih]; simp [q, own_c]
    · rw [if_neg q, List.length_cons, ih]; simp [q, own_c]
theorem own_cle (l : List Int32) : own_c l ≤ l.length := List.countP_le_length
theorem own_cS (l : List Int32) (i : Nat) (x : Int32) (hi : i < l.length) (hx : l.getD i 0 = x) : own_c (l.take (i + 1)) = if x < (0 : Int32) then own_c (l.take i) else own_c (l.take i) + 1 := by
  have hx' : l[i] = x := by rw [← hx, List.getD_eq_getElem?_getD, List.getElem?_eq_getElem hi]; rfl
  rw [List.take_succ_eq_append_getElem hi, own_c, List.countP_append, hx']
  by_cases q : x < (0 : Int32)
  · simp [q, own_c]
  · simp [q, own_c]
theorem own_ofS (n : Nat) : Int64.ofNat (n + 1) = Int64.ofNat n + (1 : Int64) := by rw [Int64.ofNat_add]; rfl
theorem own_sz (n : Nat) (h : n ≤ 16) : ¬ (Int64.ofNat n).toInt32 < 0 ∧ (Int64.ofNat n).toInt32.toNatClampNeg = n := by
  have e : (Int64.ofNat n).toInt = n := Int64.toInt_ofNat_of_lt (by omega)
  have q := c_l2i (Int64.ofNat n)
  have := rng32 (Int64.ofNat n).toInt32
  have e0 : (0 : Int32).toInt = 0 := rfl
  rw [Int32.lt_iff_toInt_lt, Int32.toNatClampNeg]
  omega
theorem own_drop (l : List Int32) (i : Nat) (hi : i < l.length) : l.drop i = l.getD i 0 :: l.drop (i + 1) := by
  rw [List.drop_eq_getElem_cons hi, List.getD_eq_getElem?_getD, List.getElem?_eq_getElem hi]; rfl
/-- one byte of a number -/
theorem own_or128 (g : Int32) : ((g ||| (128 : Int32)).toInt8.toInt32) < (0 : Int32) ∧ (((g ||| (128 : Int32)).toInt8.toInt32) &&& (127 : Int32)).toInt = g.toInt % 128 := by
  have b := c_i2b (g ||| (128 : Int32))
  have m1 := c_mask (g ||| (128 : Int32)) 255 8 (by decide) (by decide)
  have m2 := c_mask (g ||| (128 : Int32)) 127 7 (by decide) (by decide)
  have m3 := c_mask ((g ||| (128 : Int32)).toInt8.toInt32) 127 7 (by decide) (by decide)
  have m4 := c_mask g 127 7 (by decide) (by decide)
  have d1 : (g ||| (128 : Int32)) &&& 255 = (g &&& 255) ||| 128 := by
    apply Int32.toBitVec_inj.mp
    show (g.toBitVec ||| 128#32) &&& 255#32 = (g.toBitVec &&& 255#32) ||| 128#32
    apply BitVec.eq_of_getLsbD_eq
    intro i hi
    simp only [BitVec.getLsbD_and, BitVec.getLsbD_or]
    have k : (128#32).getLsbD i = true → (255#32).getLsbD i = true := by
      revert hi; revert i; decide
    revert k
    cases (g.toBitVec.getLsbD i) <;> cases ((128#32).getLsbD i) <;> cases ((255#32).getLsbD i) <;> simp
  have d2 : (g ||| (128 : Int32)) &&& 127 = g &&& 127 := by
    apply Int32.toBitVec_inj.mp
    show (g.toBitVec ||| 128#32) &&& 127#32 = g.toBitVec &&& 127#32
    apply BitVec.eq_of_getLsbD_eq
    intro i hi
    simp only [BitVec.getLsbD_and, BitVec.getLsbD_or]
    have k : (128#32).getLsbD i = true → (127#32).getLsbD i = false := by
      revert hi; revert i; decide
    revert k
    cases (g.toBitVec.getLsbD i) <;> cases ((128#32).getLsbD i) <;> cases ((127#32).getLsbD i) <;> simp
  have o := (c_or0 (g &&& 255) 128 (c_and g 255 (by decide)).1 (by decide)).2
  rw [← d1, m1] at o
  rw [d2, m4] at m2
  have e0 : (0 : Int32).toInt = 0 := rfl
  have e8 : (128 : Int32).toInt = 128 := rfl
  rw [Int32.lt_iff_toInt_lt, m3]
  simp only [show ((2 ^ 7 : Nat) : Int) = 128 from rfl, show ((2 ^ 8 : Nat) : Int) = 256 from rfl] at *
  omega
theorem own_lo (g : Int32) (h0 : ¬ g < 0) (h : g < (128 : Int32)) : ¬ (g.toInt8.toInt32) < (0 : Int32) ∧ ((g.toInt8.toInt32) &&& (127 : Int32)).toInt = g.toInt := by
  have b := c_i2b g
  have m3 := c_mask (g.toInt8.toInt32) 127 7 (by decide) (by decide)
  have e0 : (0 : Int32).toInt = 0 := rfl
  have e8 : (128 : Int32).toInt = 128 := rfl
  rw [Int32.lt_iff_toInt_lt] at *
  rw [m3]
  simp only [show ((2 ^ 7 : Nat) : Int) = 128 from rfl] at *
  omega
/-- the bits put above those that stand -/
theorem own_put (G x sh : Int32) (j : Nat) (hj : sh.toBitVec.toNat = j) (hj2 : j ≤ 30) (hG0 : 0 ≤ G.toInt) (hG : G.toInt < (2 ^ j : Nat)) (hx0 : 0 ≤ x.toInt) (hx : G.toInt + x.toInt * (2 ^ j : Nat) < 2147483648) : (G ||| (x <<< (sh &&& 31))).toInt = G.toInt + x.toInt * (2 ^ j : Nat) := by
  have s := c_ishl x sh j (by omega)
  have hp : (1 : Int) ≤ ((2 ^ j : Nat) : Int) := by have := Nat.pow_pos (n := j) (show 0 < 2 by decide); omega
  have r := rng32 (x <<< (sh &&& 31))
  have hx1 : 0 ≤ x.toInt * ((2 ^ j : Nat) : Int) := Int.mul_nonneg hx0 (by omega)
  have e : (x <<< (sh &&& 31)).toInt = x.toInt * ((2 ^ j : Nat) : Int) := by
    generalize x.toInt * ((2 ^ j : Nat) : Int) = Y at *
    omega
  have o := c_or' G (x <<< (sh &&& 31)) j (by omega) _ rfl (by rw [e]; exact Int.mul_emod_left _ _) hG0 hG
  rw [e] at o
  have r2 := rng32 (G ||| (x <<< (sh &&& 31)))
  have n0 := (c_orS G (x <<< (sh &&& 31))).1 hG0 (by omega)
  generalize x.toInt * ((2 ^ j : Nat) : Int) = Y at *
  omega
theorem own_dec (k : Nat) (g G sh o : Int32) (t : List Int32) (j : Nat) (hj : sh.toBitVec.toNat = j) (hjk : j + 7 * k ≤ 30) (h0 : ¬ g < 0) (hk : g.toInt < 128 ^ (k + 1)) (hG0 : 0 ≤ G.toInt) (hG : G.toInt < (2 ^ j : Nat)) (hx : G.toInt + g.toInt * (2 ^ j : Nat) < 2147483648) :
    ∃ V : Int32, V.toInt = G.toInt + g.toInt * (2 ^ j : Nat) ∧ own_run (own_enc k g ++ t) o G sh = (o + V) :: own_run t (o + V) 0 0 := by
  have hg0 : 0 ≤ g.toInt := by rw [Int32.lt_iff_toInt_lt] at h0; have e0 : (0 : Int32).toInt = 0 := rfl; omega
  induction k generalizing g G sh j with
  | zero =>
    have hlt : g < (128 : Int32) := by rw [Int32.lt_iff_toInt_lt]; have e : (128 : Int32).toInt = 128 := rfl; omega
    obtain ⟨b1, b2⟩ := own_lo g h0 hlt
    refine ⟨G ||| (((g.toInt8.toInt32) &&& (127 : Int32)) <<< (sh &&& 31)), ?_, ?_⟩
    rotate_left
    · rw [own_enc, List.singleton_append, own_run, if_neg b1]
    · rw [own_put G _ sh j hj (by omega) hG0 hG (by omega) (by rw [b2]; exact hx), b2]
  | succ k ih =>
    by_cases hlt : g < (128 : Int32)
    · obtain ⟨b1, b2⟩ := own_lo g h0 hlt
      refine ⟨G ||| (((g.toInt8.toInt32) &&& (127 : Int32)) <<< (sh &&& 31)), ?_, ?_⟩
      rotate_left
      · rw [own_encL _ _ hlt, List.singleton_append, own_run, if_neg b1]
      · rw [own_put G _ sh j hj (by omega) hG0 hG (by omega) (by rw [b2]; exact hx), b2]
    · obtain ⟨b1, b2⟩ := own_or128 g
      obtain ⟨g1, g2, g3⟩ := own_gs k g h0 hk
      have hp : (1 : Int) ≤ ((2 ^ j : Nat) : Int) := by have := Nat.pow_pos (n := j) (show 0 < 2 by decide); omega
      have hd := Int.mul_ediv_add_emod g.toInt 128
      have hm0 := Int.emod_nonneg g.toInt (by decide : (128 : Int) ≠ 0)
      have hm1 := Int.emod_lt_of_pos g.toInt (by decide : (0 : Int) < 128)
      have hq0 : 0 ≤ g.toInt / 128 := by omega
      have e7 : ((2 ^ (j + 7) : Nat) : Int) = ((2 ^ j : Nat) : Int) * 128 := by rw [Nat.pow_add]; push_cast; rfl
      have hsum : g.toInt * ((2 ^ j : Nat) : Int) = (g.toInt % 128) * ((2 ^ j : Nat) : Int) + (g.toInt / 128) * ((2 ^ (j + 7) : Nat) : Int) := by
        rw [e7]
        generalize ((2 ^ j : Nat) : Int) = P at *
        generalize g.toInt / 128 = q at *
        generalize g.toInt % 128 = r at *
        rw [← hd, Int.add_mul, Int.mul_comm P 128, ← Int.mul_assoc, Int.mul_comm q 128]; omega
      have hq1 : 0 ≤ (g.toInt / 128) * ((2 ^ (j + 7) : Nat) : Int) := Int.mul_nonneg hq0 (by rw [e7]; omega)
      have hr1 : 0 ≤ (g.toInt % 128) * ((2 ^ j : Nat) : Int) := Int.mul_nonneg hm0 (by omega)
      have hr2 : (g.toInt % 128) * ((2 ^ j : Nat) : Int) ≤ 127 * ((2 ^ j : Nat) : Int) := Int.mul_le_mul_of_nonneg_right (by omega) (by omega)
      have p := own_put G _ sh j hj (by omega) hG0 hG (by rw [b2]; exact hm0) (by rw [b2]; omega)
      rw [b2] at p
      have hsh : (sh + (7 : Int32)).toBitVec.toNat = j + 7 := by
        show (sh.toBitVec + 7#32).toNat = _
        rw [BitVec.toNat_add, hj]
        show (j + 7) % 2 ^ 32 = _
        omega
      obtain ⟨V, v1, v2⟩ := ih _ (G ||| ((((g ||| (128 : Int32)).toInt8.toInt32) &&& (127 : Int32)) <<< (sh &&& 31))) (sh + (7 : Int32)) (j + 7) hsh (by omega) g1 g2 (by rw [p]; omega) (by rw [p, e7]; omega) (by rw [p, g3]; omega) (by rw [g3]; omega)
      refine ⟨V, by rw [v1, p, g3]; omega, ?_⟩
      rw [own_enc, if_neg hlt, List.cons_append, own_run, if_pos b1, v2]
theorem own_dec1 (o x : Int32) (t : List Int32) (h0 : ¬ o < 0) (h : ¬ x < o) : own_run (own_enc 4 (x - o) ++ t) o 0 0 = x :: own_run t x 0 0 := by
  have e0 : (0 : Int32).toInt = 0 := rfl
  rw [Int32.lt_iff_toInt_lt] at h0 h
  have s := c_isub x o
  have := rng32 x
  have := rng32 o
  have := rng32 (x - o)
  obtain ⟨V, v1, v2⟩ := own_dec 4 (x - o) 0 0 o t 0 rfl (by decide) (by rw [Int32.lt_iff_toInt_lt]; omega) (by show _ < (34359738368 : Int); omega) (by decide) (by decide) (by show _ + _ * (1 : Int) < _; omega)
  have v3 : V = x - o := Int32.toInt_inj.mp (by rw [v1]; show (0 : Int) + _ * (1 : Int) = _; omega)
  rw [v2, v3, show o + (x - o) = x from ?_]
  rw [Int32.add_comm, Int32.sub_add_cancel]

theorem Pst.nn {Z : State} {n0 : Nat} {h : Heap} {a : Addr} {bs : List Int32} {lst : Int32} {n : Nat} (P : Pst Z n0 h a bs lst n) : (n = 4 ∨ n = 8 ∨ n = 16) ∧ bs.length ≤ n := by
  obtain ⟨g, f, fv, E1, F1, F2, F3, F4, ga, gg, Eg, A1, hn, hle, hB, hv⟩ := P; exact ⟨hn, hle⟩
theorem own_lf {n : Nat} (h : n = 4 ∨ n = 8 ∨ n = 16) (k : n ≤ 14) : own_left n = own_left (2 * n) + 1 := by rcases h with rfl | rfl | rfl <;> first | rfl | omega
theorem own_l2 {n : Nat} (h : n = 4 ∨ n = 8 ∨ n = 16) : own_left n ≤ 2 := by rcases h with rfl | rfl | rfl <;> decide
theorem d9_0 : decode prog_24_method_3_code 0 = .ok (.iload_n 1, 1) := by decide +kernel
theorem d9_1 : decode prog_24_method_3_code 1 = .ok (.aload_n 0, 1) := by decide +kernel
theorem d9_2 : decode prog_24_method_3_code 2 = .ok (.getfield 17, 3) := by decide +kernel
theorem d9_5 : decode prog_24_method_3_code 5 = .ok (.isub, 1) := by decide +kernel
theorem d9_6 : decode prog_24_method_3_code 6 = .ok (.istore_n 2, 1) := by decide +kernel
theorem d9_7 : decode prog_24_method_3_code 7 = .ok (.aload_n 0, 1) := by decide +kernel
theorem d9_8 : decode prog_24_method_3_code 8 = .ok (.iload_n 1, 1) := by decide +kernel
theorem d9_9 : decode prog_24_method_3_code 9 = .ok (.putfield 17, 3) := by decide +kernel
theorem d9_12 : decode prog_24_method_3_code 12 = .ok (.aload_n 0, 1) := by decide +kernel
theorem d9_13 : decode prog_24_method_3_code 13 = .ok (.getfield 20, 3) := by decide +kernel
theorem d9_16 : decode prog_24_method_3_code 16 = .ok (.istore_n 3, 1) := by decide +kernel
theorem d9_17 : decode prog_24_method_3_code 17 = .ok (.iload_n 2, 1) := by decide +kernel
theorem d9_18 : decode prog_24_method_3_code 18 = .ok (.sipush 128, 3) := by decide +kernel
theorem d9_21 : decode prog_24_method_3_code 21 = .ok (.if_icmp .lt 21, 3) := by decide +kernel
theorem d9_42 : decode prog_24_method_3_code 42 = .ok (.aload_n 0, 1) := by decide +kernel
theorem d9_43 : decode prog_24_method_3_code 43 = .ok (.iload_n 2, 1) := by decide +kernel
theorem d9_44 : decode prog_24_method_3_code 44 = .ok (.i2b, 1) := by decide +kernel
theorem d9_45 : decode prog_24_method_3_code 45 = .ok (.invokevirtual 23, 3) := by decide +kernel
theorem pd_2 : parseMethodDescriptor "(B)V" = some ⟨[.byte], none⟩ := by decide +kernel
theorem own_psel {s : State} {args : Array Value} {y z : MethodName} (e : z.cls = y.cls) (hz : (Cond.selects z.cls z z).before args s = true) (hp : s.PrivateAt y) (hi : (Cond.instanceMethod y).before args s = true) (hy : y.cls ≠ "java/lang/invoke/MethodHandle" ∧ y.cls ≠ "java/lang/invoke/VarHandle") : (Cond.selects y.cls y y).before args s = true := by
  obtain ⟨c2, r2, m2, q1, q2, q3, q4, kP, hkP, hkPi⟩ := Cond.selects_spec hz
  have hm : s.vm.findClass z.cls = some m2.cls := findClass_of_methodNamed q3
  rw [e] at hm
  exact selects_self_of_private hm hkP hkPi hp hi hy
theorem d9_48 : decode prog_24_method_3_code 48 = .ok (.aload_n 0, 1) := by decide +kernel
theorem d9_49 : decode prog_24_method_3_code 49 = .ok (.getfield 20, 3) := by decide +kernel
theorem d9_52 : decode prog_24_method_3_code 52 = .ok (.iload_n 3, 1) := by decide +kernel
theorem d9_53 : decode prog_24_method_3_code 53 = .ok (.isub, 1) := by decide +kernel
theorem d9_54 : decode prog_24_method_3_code 54 = .ok (.ireturn, 1) := by decide +kernel
theorem d9_24 : decode prog_24_method_3_code 24 = .ok (.aload_n 0, 1) := by decide +kernel
theorem d9_25 : decode prog_24_method_3_code 25 = .ok (.iload_n 2, 1) := by decide +kernel
theorem d9_26 : decode prog_24_method_3_code 26 = .ok (.sipush 128, 3) := by decide +kernel
theorem d9_29 : decode prog_24_method_3_code 29 = .ok (.ior, 1) := by decide +kernel
theorem d9_30 : decode prog_24_method_3_code 30 = .ok (.i2b, 1) := by decide +kernel
theorem d9_31 : decode prog_24_method_3_code 31 = .ok (.invokevirtual 23, 3) := by decide +kernel
theorem d9_34 : decode prog_24_method_3_code 34 = .ok (.iload_n 2, 1) := by decide +kernel
theorem d9_35 : decode prog_24_method_3_code 35 = .ok (.bipush 7, 2) := by decide +kernel
theorem d9_37 : decode prog_24_method_3_code 37 = .ok (.iushr, 1) := by decide +kernel
theorem d9_38 : decode prog_24_method_3_code 38 = .ok (.istore_n 2, 1) := by decide +kernel
theorem d9_39 : decode prog_24_method_3_code 39 = .ok (.goto (-22), 3) := by decide +kernel
def Q_rm9 (Z : State) (a1 : Addr) (p2 : Int32) (bs : List Int32) (lst : Int32) (n : Nat) (h0 : Heap) (n0 : Nat) (v : Option Value) (h : Heap) (L : List Loc) : Prop := ∃ (r : Int32) (n' : Nat), v = some (.int r) ∧ Fr n0 L ∧ (n0 ≤ h.size ∧ True) ∧ Exa Z h a1 "com/example/subjectory/subjectory/index/Postings" ∧ Pst Z n0 h a1 (bs ++ own_enc 4 (p2 - lst)) p2 n'
theorem ef_rm9 (m : MethodId) (x0 : Addr) (x1 : Int32) : entryFrame m #[(.ref x0), (.int x1)] 4 = mkF m 0 #[.val (.ref x0), .val (.int x1), .unset, .unset] [] := by first | (simp [entryFrame, mkF, argsToLocals, Value.category]; done) | rfl
set_option maxRecDepth 65536 in
set_option maxHeartbeats 40000000 in
theorem rm9 (l : Launch) (Z : State) (a0 : Array Value) (hw : ∀ d ∈ tables_1, d.before a0 Z = true) (ws : List Jvm.Cond) (a1 : Addr) (p2 : Int32) (bs : List Int32) (lst : Int32) (n : Nat) (h0 : Heap) (n0 : Nat) (Z0 : n0 ≤ h0.size) (g_a1 : n0 ≤ a1) (hP : Pst Z n0 h0 a1 bs lst n) (hg0 : ¬ (p2 - lst) < 0) (hg4 : (p2 - lst).toInt < 128 ^ (4 + 1)) (hbl : bs.length ≤ 10) :
    MetFree l (⟨"com/example/subjectory/subjectory/index/Postings", "add", "(I)I"⟩ : MethodName) (head1 (Jvm.Cond.code (⟨"com/example/subjectory/subjectory/index/Postings", "add", "(I)I"⟩ : MethodName) prog_24_method_3_code 4 (some .int) :: ws) ({ frames := 3, cells := 2, slots := 32, locals := 46 } : Room)) (fun a U => a = #[(.ref a1), (.int p2)] ∧ Z.Warmed39 U.vm ∧ U.heap = h0) (fun _ _ _ _ _ => True) (fun _ U o U' => ∃ v L, o = .returned v ∧ Q_rm9 Z a1 p2 bs lst n h0 n0 v U'.heap L ∧ FrameEnd U o U' L ({ frames := 3, cells := 2, slots := 32, locals := 46 } : Room).cells ({ frames := 3, cells := 2, slots := 32, locals := 46 } : Room).slots) := by
  refine MetFree.of_bodySF (plainFor_of_name pn_0) hisR ?_
  intro p e s m args below meth c s₁ Bd hml0 hP hK
  obtain ⟨rfl, hZ, hh⟩ := hP
  have hx := Bd.exec
  have hby := Bd.bytes
  have hml : c.maxLocals = 4 := hml0
  have hown : s.vm.findClass "com/example/subjectory/subjectory/index/Postings" = some m.cls := findClass_of_methodNamed Bd.named
  have hnm := (name_of_methodNamed Bd.named Bd.method).1
  have X0 : Stand p l e ({ frames := 3, cells := 2, slots := 32, locals := 46 } : Room) s m #[(.ref a1), (.int p2)] below meth c s₁ [] 0 0 := Stand.of_body Bd
  have e0 : s₁.heap = h0 := by rw [← hh, Bd.state]; rfl
  have N0 := Fr.nil n0
  show Run p e below s 2 32 (Q_rm9 Z a1 p2 bs lst n h0 n0) (s₁.setTop (entryFrame m #[(.ref a1), (.int p2)] 4))
  refine Run.go (fun _ k => castTop (ef_rm9 m a1 p2) k) ?_
  show Run p e below s 2 32 (Q_rm9 Z a1 p2 bs lst n h0 n0) (s₁.setTop (mkF m 0 #[.val (.ref a1), .val (.int p2), .unset, .unset] []))
  obtain ⟨g, f, fv, E1, F1, F2, F3, F4, -, gg, Eg, A1, hn, hlb, hB, hv⟩ := hP
  have ne_g_a1 : g ≠ a1 := Ary.ne A1 E1 (hw _ (List.mem_of_getElem? (i := 6) rfl))
  refine Run.go (fun _ k => XS.iloadN X0.here hx rfl (hb hby d9_0) rfl  k) ?_
  show Run p e below s 2 32 (Q_rm9 Z a1 p2 bs lst n h0 n0) (s₁.setTop (mkF m 1 #[.val (.ref a1), .val (.int p2), .unset, .unset] [(.int p2)]))
  refine Run.go (fun _ k => XS.aloadN X0.here hx rfl (hb hby d9_1) rfl rfl k) ?_
  show Run p e below s 2 32 (Q_rm9 Z a1 p2 bs lst n h0 n0) (s₁.setTop (mkF m 2 #[.val (.ref a1), .val (.int p2), .unset, .unset] [(.ref a1), (.int p2)]))
  obtain ⟨T3, X3, e3, st3⟩ := getF X0 hx hZ hown (host := "") (Or.inl (hw _ (List.mem_of_getElem? (i := 19) rfl))) Via.refl e0 F3 (g := (mkF m 2 #[.val (.ref a1), .val (.int p2), .unset, .unset] [(.ref a1), (.int p2)])) rfl rfl (hb hby d9_2)
  refine Run.go st3 ?_
  show Run p e below s 2 32 (Q_rm9 Z a1 p2 bs lst n h0 n0) (T3.setTop (mkF m 5 #[.val (.ref a1), .val (.int p2), .unset, .unset] [(.int lst), (.int p2)]))
  refine Run.go (fun _ k => XS.isub X3.here hx rfl (hb hby d9_5) rfl k) ?_
  show Run p e below s 2 32 (Q_rm9 Z a1 p2 bs lst n h0 n0) (T3.setTop (mkF m 6 #[.val (.ref a1), .val (.int p2), .unset, .unset] [(.int (p2 - lst))]))
  refine Run.go (fun _ k => XS.istoreN X3.here hx rfl (hb hby d9_6) rfl (l' := #[.val (.ref a1), .val (.int p2), .val (.int (p2 - lst)), .unset]) rfl k) ?_
  show Run p e below s 2 32 (Q_rm9 Z a1 p2 bs lst n h0 n0) (T3.setTop (mkF m 7 #[.val (.ref a1), .val (.int p2), .val (.int (p2 - lst)), .unset] []))
  refine Run.go (fun _ k => XS.aloadN X3.here hx rfl (hb hby d9_7) rfl rfl k) ?_
  show Run p e below s 2 32 (Q_rm9 Z a1 p2 bs lst n h0 n0) (T3.setTop (mkF m 8 #[.val (.ref a1), .val (.int p2), .val (.int (p2 - lst)), .unset] [(.ref a1)]))
  refine Run.go (fun _ k => XS.iloadN X3.here hx rfl (hb hby d9_8) rfl  k) ?_
  show Run p e below s 2 32 (Q_rm9 Z a1 p2 bs lst n h0 n0) (T3.setTop (mkF m 9 #[.val (.ref a1), .val (.int p2), .val (.int (p2 - lst)), .unset] [(.int p2), (.ref a1)]))
  obtain ⟨T4, h4, X4, e4, W4, st4⟩ := putF X3 hx hZ hown (host := "") (Or.inl (hw _ (List.mem_of_getElem? (i := 19) rfl))) Via.refl e3 F3 E1 (Or.inl (hw _ (List.mem_of_getElem? (i := 20) rfl))) (hw _ (List.mem_of_getElem? (i := 6) rfl)) (ty := .int) (by decide) rfl rfl (g := (mkF m 9 #[.val (.ref a1), .val (.int p2), .val (.int (p2 - lst)), .unset] [(.int p2), (.ref a1)])) rfl rfl (hb hby d9_9)
  have N4 := Fr.snoc X4 N0 g_a1
  have Z4 : n0 ≤ h4.size := Nat.le_trans Z0 (Keep.of_wr W4).1
  obtain ⟨Lg4, Xg4, Ng4⟩ := Stand_gen X4 N4
  have fx5 := F3.same W4
  refine Run.go st4 ?_
  show Run p e below s 2 32 (Q_rm9 Z a1 p2 bs lst n h0 n0) (T4.setTop (mkF m 12 #[.val (.ref a1), .val (.int p2), .val (.int (p2 - lst)), .unset] []))
  refine Run.go (fun _ k => XS.aloadN Xg4.here hx rfl (hb hby d9_12) rfl rfl k) ?_
  show Run p e below s 2 32 (Q_rm9 Z a1 p2 bs lst n h0 n0) (T4.setTop (mkF m 13 #[.val (.ref a1), .val (.int p2), .val (.int (p2 - lst)), .unset] [(.ref a1)]))
  have fx6 := (F2.other W4 (Or.inr (slot_ne (Or.inl (hw _ (List.mem_of_getElem? (i := 27) rfl))) (Or.inl (hw _ (List.mem_of_getElem? (i := 20) rfl))) (by decide) (t := .int) (t' := .int) (by decide) (by decide))))
  obtain ⟨T7, X7, e7, st7⟩ := getF Xg4 hx hZ hown (host := "") (Or.inl (hw _ (List.mem_of_getElem? (i := 26) rfl))) Via.refl e4 fx6 (g := (mkF m 13 #[.val (.ref a1), .val (.int p2), .val (.int (p2 - lst)), .unset] [(.ref a1)])) rfl rfl (hb hby d9_13)
  refine Run.go st7 ?_
  show Run p e below s 2 32 (Q_rm9 Z a1 p2 bs lst n h0 n0) (T7.setTop (mkF m 16 #[.val (.ref a1), .val (.int p2), .val (.int (p2 - lst)), .unset] [(.int (bs.length.toInt32))]))
  have fx8 := (E1.wr W4)
  have fx9 := (A1.other W4 ne_g_a1)
  have fx10 := (Eg.wr W4)
  have fx11 := (F1.other W4 (Or.inr (slot_ne (Or.inl (hw _ (List.mem_of_getElem? (i := 16) rfl))) (Or.inl (hw _ (List.mem_of_getElem? (i := 20) rfl))) (by decide) (t := (.array .byte)) (t' := .int) (by decide) (by decide))))
  have fx12 := (F4.other W4 (Or.inr (slot_ne (Or.inr (hw _ (List.mem_of_getElem? (i := 18) rfl))) (Or.inl (hw _ (List.mem_of_getElem? (i := 20) rfl))) (by decide) (t := .int) (t' := .int) (by decide) (by decide))))
  have hP16 : Pst Z n0 h4 a1 bs p2 n := ⟨g, f, fv, fx8, fx11, fx6, fx5, fx12, g_a1, gg, fx10, fx9, hn, hlb, hB, hv⟩
  refine Run.go (fun _ k => XS.istoreN X7.here hx rfl (hb hby d9_16) rfl (l' := #[.val (.ref a1), .val (.int p2), .val (.int (p2 - lst)), .val (.int (bs.length.toInt32))]) rfl k) ?_
  show Run p e below s 2 32 (Q_rm9 Z a1 p2 bs lst n h0 n0) (T7.setTop (mkF m 17 #[.val (.ref a1), .val (.int p2), .val (.int (p2 - lst)), .val (.int (bs.length.toInt32))] []))
  have LP13 : ∀ (kk : Nat) (gp : Int32) (cur : List Int32) (cn : Nat) (kc ks : Nat) (hh14 : Heap) (T14 : State) (L14 : List Loc) (X14 : Stand p l e ({ frames := 3, cells := 2, slots := 32, locals := 46 } : Room) s m #[(.ref a1), (.int p2)] below meth c T14 L14 kc ks) (e14 : T14.heap = hh14) (N14 : Fr n0 L14) (Z14 : n0 ≤ hh14.size) (fk14_0 : Pst Z n0 hh14 a1 (cur) (p2) (cn)) (fk14_1 : Exa Z hh14 a1 "com/example/subjectory/subjectory/index/Postings") (hg1 : ¬ gp < 0) (hgk : gp.toInt < 128 ^ (kk + 1)) (hen : cur ++ own_enc kk gp = bs ++ own_enc 4 (p2 - lst)) (hkc : kc + own_left cn ≤ 2) (hks : ks + 16 * own_left cn ≤ 32) (hcl : cur.length + kk ≤ 14), Run p e below s 2 32 (Q_rm9 Z a1 p2 bs lst n h0 n0) (T14.setTop (mkF m 17 #[.val (.ref a1), .val (.int p2), .val (.int gp), .val (.int (bs.length.toInt32))] [])) := by
    intro kk
    induction kk using Nat.strongRecOn with
    | _ kk ihLP13 =>
      intro gp cur cn kc ks hh14 T14 L14 X14 e14 N14 Z14 fk14_0 fk14_1 hg1 hgk hen hkc hks hcl
      show Run p e below s 2 32 (Q_rm9 Z a1 p2 bs lst n h0 n0) (T14.setTop (mkF m 17 #[.val (.ref a1), .val (.int p2), .val (.int gp), .val (.int (bs.length.toInt32))] []))
      refine Run.go (fun _ k => XS.iloadN X14.here hx rfl (hb hby d9_17) rfl  k) ?_
      show Run p e below s 2 32 (Q_rm9 Z a1 p2 bs lst n h0 n0) (T14.setTop (mkF m 18 #[.val (.ref a1), .val (.int p2), .val (.int gp), .val (.int (bs.length.toInt32))] [(.int gp)]))
      refine Run.go (fun _ k => XS.sipush X14.here hx rfl (hb hby d9_18) k) ?_
      show Run p e below s 2 32 (Q_rm9 Z a1 p2 bs lst n h0 n0) (T14.setTop (mkF m 21 #[.val (.ref a1), .val (.int p2), .val (.int gp), .val (.int (bs.length.toInt32))] [(.int (128 : Int32)), (.int gp)]))
      by_cases hc15 : (gp < (128 : Int32))
      · refine Run.go (fun _ k => XS.icmpYes X14.here hx rfl (pc0 := 21) (pc' := 42) rfl (hb hby d9_21) rfl (tlt hc15).1 (by decide) (by decide) k) ?_
        show Run p e below s 2 32 (Q_rm9 Z a1 p2 bs lst n h0 n0) (T14.setTop (mkF m 42 #[.val (.ref a1), .val (.int p2), .val (.int gp), .val (.int (bs.length.toInt32))] []))
        refine Run.go (fun _ k => XS.aloadN X14.here hx rfl (hb hby d9_42) rfl rfl k) ?_
        show Run p e below s 2 32 (Q_rm9 Z a1 p2 bs lst n h0 n0) (T14.setTop (mkF m 43 #[.val (.ref a1), .val (.int p2), .val (.int gp), .val (.int (bs.length.toInt32))] [(.ref a1)]))
        refine Run.go (fun _ k => XS.iloadN X14.here hx rfl (hb hby d9_43) rfl  k) ?_
        show Run p e below s 2 32 (Q_rm9 Z a1 p2 bs lst n h0 n0) (T14.setTop (mkF m 44 #[.val (.ref a1), .val (.int p2), .val (.int gp), .val (.int (bs.length.toInt32))] [(.int gp), (.ref a1)]))
        refine Run.go (fun _ k => XS.i2b X14.here hx rfl (hb hby d9_44) rfl k) ?_
        show Run p e below s 2 32 (Q_rm9 Z a1 p2 bs lst n h0 n0) (T14.setTop (mkF m 45 #[.val (.ref a1), .val (.int p2), .val (.int gp), .val (.int (bs.length.toInt32))] [(.int (gp.toInt8.toInt32)), (.ref a1)]))
        have hnn := Pst.nn fk14_0
        have hlf : cn ≤ 14 → own_left cn = own_left (2 * cn) + 1 := own_lf hnn.1
        obtain hk16 | hk16 := Classical.em (cur.length = cn)
        · show Run p e below s 2 32 (Q_rm9 Z a1 p2 bs lst n h0 n0) (T14.setTop (mkF m 45 #[.val (.ref a1), .val (.int p2), .val (.int gp), .val (.int (bs.length.toInt32))] [(.int (gp.toInt8.toInt32)), (.ref a1)]))
          have hl1 := hlf (by omega)
          obtain ⟨cq17, q17, q17'⟩ := fk14_1.cell
          obtain ⟨_, _, ⟨T17, L17, k17, n17⟩, -, X17, ⟨Lc17, hQ17, l17, y17, z17⟩, st17⟩ := X14.privateBack hx (y := (⟨"com/example/subjectory/subjectory/index/Postings", "append", "(B)V"⟩ : MethodName)) hown (mvT hZ (hw _ (List.mem_of_getElem? (i := 51) rfl))) (mvT hZ (hw _ (List.mem_of_getElem? (i := 52) rfl))) (own_psel (y := (⟨"com/example/subjectory/subjectory/index/Postings", "append", "(B)V"⟩ : MethodName)) (z := (⟨"com/example/subjectory/subjectory/index/Postings", "toValue", "()[B"⟩ : MethodName)) rfl (mvT hZ (hw _ (List.mem_of_getElem? (i := 24) rfl))) (Cond.privateMethod_at (mvP hZ (hw _ (List.mem_of_getElem? (i := 53) rfl)) (args := #[]))) (mvT hZ (hw _ (List.mem_of_getElem? (i := 52) rfl))) (by decide)) (Cond.privateMethod_at (mvP hZ (hw _ (List.mem_of_getElem? (i := 53) rfl)) (args := #[]))) (mvT hZ (hw _ (List.mem_of_getElem? (i := 54) rfl))) (by decide) (backOf (W := 0) (rm10y l Z a0 hw [] a1 (gp.toInt8.toInt32) cur p2 cn hh14 n0 Z14 fk14_0 (b_idem _) (by omega) hk16) hZ (hw _ (List.mem_of_getElem? (i := 54) rfl)) (hw _ (List.mem_of_getElem? (i := 7) rfl)) (by decide) (by decide)) (g := (mkF m 45 #[.val (.ref a1), .val (.int p2), .val (.int gp), .val (.int (bs.length.toInt32))] [(.int (gp.toInt8.toInt32)), (.ref a1)])) rfl (by rw [hml]; rfl) (Steps.refl _) (a := a1) (by rw [e14]; exact q17) q17' (argsL := [(.int (gp.toInt8.toInt32))]) (rest := []) (lenOf pd_2 rfl) rfl (by show 2 * 0 + _ ≤ _; exact Nat.le_of_eq rfl) (hb hby d9_45) (fun _ _ => ⟨rfl, e14, (show kc + 1 ≤ 2 from by omega), (show ks + 16 ≤ 32 from by omega)⟩)
          dsimp only [Pt.U, Pt.locs, Pt.cells, Pt.slots] at X17 l17 y17 z17 st17 hQ17
          have y17s := y17.symm; have z17s := z17.symm; subst l17 y17s z17s
          obtain ⟨rfl, N17q, K17q, fq17_0, fq17_1⟩ := hQ17
          have N17 := Fr.app N14 N17q
          have Z17 : n0 ≤ T17.heap.size := Nat.le_trans Z14 K17q.1
          obtain ⟨Lg17, Xg17, Ng17⟩ := Stand_gen X17 N17
          refine Run.tr st17 ?_
          show Run p e below s 2 32 (Q_rm9 Z a1 p2 bs lst n h0 n0) (T17.setTop (mkF m 48 #[.val (.ref a1), .val (.int p2), .val (.int gp), .val (.int (bs.length.toInt32))] []))
          obtain ⟨_, _, _, _, _, u18, _⟩ := id fq17_1
          refine Run.go (fun _ k => XS.aloadN Xg17.here hx rfl (hb hby d9_48) rfl rfl k) ?_
          show Run p e below s 2 32 (Q_rm9 Z a1 p2 bs lst n h0 n0) (T17.setTop (mkF m 49 #[.val (.ref a1), .val (.int p2), .val (.int gp), .val (.int (bs.length.toInt32))] [(.ref a1)]))
          obtain ⟨T19, X19, e19, st19⟩ := getF Xg17 hx hZ hown (host := "") (Or.inl (hw _ (List.mem_of_getElem? (i := 26) rfl))) Via.refl rfl u18 (g := (mkF m 49 #[.val (.ref a1), .val (.int p2), .val (.int gp), .val (.int (bs.length.toInt32))] [(.ref a1)])) rfl rfl (hb hby d9_49)
          refine Run.go st19 ?_
          show Run p e below s 2 32 (Q_rm9 Z a1 p2 bs lst n h0 n0) (T19.setTop (mkF m 52 #[.val (.ref a1), .val (.int p2), .val (.int gp), .val (.int (bs.length.toInt32))] [(.int ((cur ++ [(gp.toInt8.toInt32)]).length.toInt32))]))
          refine Run.go (fun _ k => XS.iloadN X19.here hx rfl (hb hby d9_52) rfl  k) ?_
          show Run p e below s 2 32 (Q_rm9 Z a1 p2 bs lst n h0 n0) (T19.setTop (mkF m 53 #[.val (.ref a1), .val (.int p2), .val (.int gp), .val (.int (bs.length.toInt32))] [(.int (bs.length.toInt32)), (.int ((cur ++ [(gp.toInt8.toInt32)]).length.toInt32))]))
          refine Run.go (fun _ k => XS.isub X19.here hx rfl (hb hby d9_53) rfl k) ?_
          show Run p e below s 2 32 (Q_rm9 Z a1 p2 bs lst n h0 n0) (T19.setTop (mkF m 54 #[.val (.ref a1), .val (.int p2), .val (.int gp), .val (.int (bs.length.toInt32))] [(.int (((cur ++ [(gp.toInt8.toInt32)]).length.toInt32) - (bs.length.toInt32)))]))
          refine Run.retI X19 hx Bd.returns Bd.notSynchronized (hb hby d9_54) (show (kc + 1) ≤ 2 from by omega) (show (ks + 16) ≤ 32 from by omega) ?_
          show Q_rm9 Z a1 p2 bs lst n h0 n0 _ T19.heap _
          rw [e19]
          rw [own_encL _ _ hc15] at hen
          exact ⟨_, _, rfl, Ng17, ⟨Z17, trivial⟩, fq17_0, hen ▸ fq17_1⟩
        · show Run p e below s 2 32 (Q_rm9 Z a1 p2 bs lst n h0 n0) (T14.setTop (mkF m 45 #[.val (.ref a1), .val (.int p2), .val (.int gp), .val (.int (bs.length.toInt32))] [(.int (gp.toInt8.toInt32)), (.ref a1)]))
          obtain ⟨cq20, q20, q20'⟩ := fk14_1.cell
          obtain ⟨_, _, ⟨T20, L20, k20, n20⟩, -, X20, ⟨Lc20, hQ20, l20, y20, z20⟩, st20⟩ := X14.privateBack hx (y := (⟨"com/example/subjectory/subjectory/index/Postings", "append", "(B)V"⟩ : MethodName)) hown (mvT hZ (hw _ (List.mem_of_getElem? (i := 51) rfl))) (mvT hZ (hw _ (List.mem_of_getElem? (i := 52) rfl))) (own_psel (y := (⟨"com/example/subjectory/subjectory/index/Postings", "append", "(B)V"⟩ : MethodName)) (z := (⟨"com/example/subjectory/subjectory/index/Postings", "toValue", "()[B"⟩ : MethodName)) rfl (mvT hZ (hw _ (List.mem_of_getElem? (i := 24) rfl))) (Cond.privateMethod_at (mvP hZ (hw _ (List.mem_of_getElem? (i := 53) rfl)) (args := #[]))) (mvT hZ (hw _ (List.mem_of_getElem? (i := 52) rfl))) (by decide)) (Cond.privateMethod_at (mvP hZ (hw _ (List.mem_of_getElem? (i := 53) rfl)) (args := #[]))) (mvT hZ (hw _ (List.mem_of_getElem? (i := 54) rfl))) (by decide) (backOf (W := 0) (rm10x l Z a0 hw [] a1 (gp.toInt8.toInt32) cur p2 cn hh14 n0 Z14 fk14_0 (b_idem _) (by omega) hk16) hZ (hw _ (List.mem_of_getElem? (i := 54) rfl)) (hw _ (List.mem_of_getElem? (i := 7) rfl)) (by decide) (by decide)) (g := (mkF m 45 #[.val (.ref a1), .val (.int p2), .val (.int gp), .val (.int (bs.length.toInt32))] [(.int (gp.toInt8.toInt32)), (.ref a1)])) rfl (by rw [hml]; rfl) (Steps.refl _) (a := a1) (by rw [e14]; exact q20) q20' (argsL := [(.int (gp.toInt8.toInt32))]) (rest := []) (lenOf pd_2 rfl) rfl (by show 2 * 0 + _ ≤ _; exact Nat.le_of_eq rfl) (hb hby d9_45) (fun _ _ => ⟨rfl, e14, (show kc + 0 ≤ 2 from by omega), (show ks + 0 ≤ 32 from by omega)⟩)
          dsimp only [Pt.U, Pt.locs, Pt.cells, Pt.slots] at X20 l20 y20 z20 st20 hQ20
          have y20s := y20.symm; have z20s := z20.symm; subst l20 y20s z20s
          obtain ⟨rfl, N20q, K20q, fq20_0, fq20_1⟩ := hQ20
          have N20 := Fr.app N14 N20q
          have Z20 : n0 ≤ T20.heap.size := Nat.le_trans Z14 K20q.1
          obtain ⟨Lg20, Xg20, Ng20⟩ := Stand_gen X20 N20
          refine Run.tr st20 ?_
          show Run p e below s 2 32 (Q_rm9 Z a1 p2 bs lst n h0 n0) (T20.setTop (mkF m 48 #[.val (.ref a1), .val (.int p2), .val (.int gp), .val (.int (bs.length.toInt32))] []))
          obtain ⟨_, _, _, _, _, u21, _⟩ := id fq20_1
          refine Run.go (fun _ k => XS.aloadN Xg20.here hx rfl (hb hby d9_48) rfl rfl k) ?_
          show Run p e below s 2 32 (Q_rm9 Z a1 p2 bs lst n h0 n0) (T20.setTop (mkF m 49 #[.val (.ref a1), .val (.int p2), .val (.int gp), .val (.int (bs.length.toInt32))] [(.ref a1)]))
          obtain ⟨T22, X22, e22, st22⟩ := getF Xg20 hx hZ hown (host := "") (Or.inl (hw _ (List.mem_of_getElem? (i := 26) rfl))) Via.refl rfl u21 (g := (mkF m 49 #[.val (.ref a1), .val (.int p2), .val (.int gp), .val (.int (bs.length.toInt32))] [(.ref a1)])) rfl rfl (hb hby d9_49)
          refine Run.go st22 ?_
          show Run p e below s 2 32 (Q_rm9 Z a1 p2 bs lst n h0 n0) (T22.setTop (mkF m 52 #[.val (.ref a1), .val (.int p2), .val (.int gp), .val (.int (bs.length.toInt32))] [(.int ((cur ++ [(gp.toInt8.toInt32)]).length.toInt32))]))
          refine Run.go (fun _ k => XS.iloadN X22.here hx rfl (hb hby d9_52) rfl  k) ?_
          show Run p e below s 2 32 (Q_rm9 Z a1 p2 bs lst n h0 n0) (T22.setTop (mkF m 53 #[.val (.ref a1), .val (.int p2), .val (.int gp), .val (.int (bs.length.toInt32))] [(.int (bs.length.toInt32)), (.int ((cur ++ [(gp.toInt8.toInt32)]).length.toInt32))]))
          refine Run.go (fun _ k => XS.isub X22.here hx rfl (hb hby d9_53) rfl k) ?_
          show Run p e below s 2 32 (Q_rm9 Z a1 p2 bs lst n h0 n0) (T22.setTop (mkF m 54 #[.val (.ref a1), .val (.int p2), .val (.int gp), .val (.int (bs.length.toInt32))] [(.int (((cur ++ [(gp.toInt8.toInt32)]).length.toInt32) - (bs.length.toInt32)))]))
          refine Run.retI X22 hx Bd.returns Bd.notSynchronized (hb hby d9_54) (show kc ≤ 2 from by omega) (show ks ≤ 32 from by omega) ?_
          show Q_rm9 Z a1 p2 bs lst n h0 n0 _ T22.heap _
          rw [e22]
          rw [own_encL _ _ hc15] at hen
          exact ⟨_, _, rfl, Ng20, ⟨Z20, trivial⟩, fq20_0, hen ▸ fq20_1⟩
      · refine Run.go (fun _ k => XS.icmpNo X14.here hx rfl (hb hby d9_21) rfl (flt hc15).1 k) ?_
        show Run p e below s 2 32 (Q_rm9 Z a1 p2 bs lst n h0 n0) (T14.setTop (mkF m 24 #[.val (.ref a1), .val (.int p2), .val (.int gp), .val (.int (bs.length.toInt32))] []))
        refine Run.go (fun _ k => XS.aloadN X14.here hx rfl (hb hby d9_24) rfl rfl k) ?_
        show Run p e below s 2 32 (Q_rm9 Z a1 p2 bs lst n h0 n0) (T14.setTop (mkF m 25 #[.val (.ref a1), .val (.int p2), .val (.int gp), .val (.int (bs.length.toInt32))] [(.ref a1)]))
        refine Run.go (fun _ k => XS.iloadN X14.here hx rfl (hb hby d9_25) rfl  k) ?_
        show Run p e below s 2 32 (Q_rm9 Z a1 p2 bs lst n h0 n0) (T14.setTop (mkF m 26 #[.val (.ref a1), .val (.int p2), .val (.int gp), .val (.int (bs.length.toInt32))] [(.int gp), (.ref a1)]))
        refine Run.go (fun _ k => XS.sipush X14.here hx rfl (hb hby d9_26) k) ?_
        show Run p e below s 2 32 (Q_rm9 Z a1 p2 bs lst n h0 n0) (T14.setTop (mkF m 29 #[.val (.ref a1), .val (.int p2), .val (.int gp), .val (.int (bs.length.toInt32))] [(.int (128 : Int32)), (.int gp), (.ref a1)]))
        refine Run.go (fun _ k => XS.ior X14.here hx rfl (hb hby d9_29) rfl k) ?_
        show Run p e below s 2 32 (Q_rm9 Z a1 p2 bs lst n h0 n0) (T14.setTop (mkF m 30 #[.val (.ref a1), .val (.int p2), .val (.int gp), .val (.int (bs.length.toInt32))] [(.int (gp ||| (128 : Int32))), (.ref a1)]))
        refine Run.go (fun _ k => XS.i2b X14.here hx rfl (hb hby d9_30) rfl k) ?_
        show Run p e below s 2 32 (Q_rm9 Z a1 p2 bs lst n h0 n0) (T14.setTop (mkF m 31 #[.val (.ref a1), .val (.int p2), .val (.int gp), .val (.int (bs.length.toInt32))] [(.int ((gp ||| (128 : Int32)).toInt8.toInt32)), (.ref a1)]))
        obtain ⟨kj, rfl⟩ := own_ek kk gp hc15 hgk
        have hnn := Pst.nn fk14_0
        have hlf : cn ≤ 14 → own_left cn = own_left (2 * cn) + 1 := own_lf hnn.1
        obtain hk23 | hk23 := Classical.em (cur.length = cn)
        · show Run p e below s 2 32 (Q_rm9 Z a1 p2 bs lst n h0 n0) (T14.setTop (mkF m 31 #[.val (.ref a1), .val (.int p2), .val (.int gp), .val (.int (bs.length.toInt32))] [(.int ((gp ||| (128 : Int32)).toInt8.toInt32)), (.ref a1)]))
          have hl1 := hlf (by omega)
          obtain ⟨cq24, q24, q24'⟩ := fk14_1.cell
          obtain ⟨_, _, ⟨T24, L24, k24, n24⟩, -, X24, ⟨Lc24, hQ24, l24, y24, z24⟩, st24⟩ := X14.privateBack hx (y := (⟨"com/example/subjectory/subjectory/index/Postings", "append", "(B)V"⟩ : MethodName)) hown (mvT hZ (hw _ (List.mem_of_getElem? (i := 51) rfl))) (mvT hZ (hw _ (List.mem_of_getElem? (i := 52) rfl))) (own_psel (y := (⟨"com/example/subjectory/subjectory/index/Postings", "append", "(B)V"⟩ : MethodName)) (z := (⟨"com/example/subjectory/subjectory/index/Postings", "toValue", "()[B"⟩ : MethodName)) rfl (mvT hZ (hw _ (List.mem_of_getElem? (i := 24) rfl))) (Cond.privateMethod_at (mvP hZ (hw _ (List.mem_of_getElem? (i := 53) rfl)) (args := #[]))) (mvT hZ (hw _ (List.mem_of_getElem? (i := 52) rfl))) (by decide)) (Cond.privateMethod_at (mvP hZ (hw _ (List.mem_of_getElem? (i := 53) rfl)) (args := #[]))) (mvT hZ (hw _ (List.mem_of_getElem? (i := 54) rfl))) (by decide) (backOf (W := 0) (rm10y l Z a0 hw [] a1 ((gp ||| (128 : Int32)).toInt8.toInt32) cur p2 cn hh14 n0 Z14 fk14_0 (b_idem _) (by omega) hk23) hZ (hw _ (List.mem_of_getElem? (i := 54) rfl)) (hw _ (List.mem_of_getElem? (i := 7) rfl)) (by decide) (by decide)) (g := (mkF m 31 #[.val (.ref a1), .val (.int p2), .val (.int gp), .val (.int (bs.length.toInt32))] [(.int ((gp ||| (128 : Int32)).toInt8.toInt32)), (.ref a1)])) rfl (by rw [hml]; rfl) (Steps.refl _) (a := a1) (by rw [e14]; exact q24) q24' (argsL := [(.int ((gp ||| (128 : Int32)).toInt8.toInt32))]) (rest := []) (lenOf pd_2 rfl) rfl (by show 2 * 0 + _ ≤ _; exact Nat.le_of_eq rfl) (hb hby d9_31) (fun _ _ => ⟨rfl, e14, (show kc + 1 ≤ 2 from by omega), (show ks + 16 ≤ 32 from by omega)⟩)
          dsimp only [Pt.U, Pt.locs, Pt.cells, Pt.slots] at X24 l24 y24 z24 st24 hQ24
          have y24s := y24.symm; have z24s := z24.symm; subst l24 y24s z24s
          obtain ⟨rfl, N24q, K24q, fq24_0, fq24_1⟩ := hQ24
          have N24 := Fr.app N14 N24q
          have Z24 : n0 ≤ T24.heap.size := Nat.le_trans Z14 K24q.1
          obtain ⟨Lg24, Xg24, Ng24⟩ := Stand_gen X24 N24
          refine Run.tr st24 ?_
          show Run p e below s 2 32 (Q_rm9 Z a1 p2 bs lst n h0 n0) (T24.setTop (mkF m 34 #[.val (.ref a1), .val (.int p2), .val (.int gp), .val (.int (bs.length.toInt32))] []))
          refine Run.go (fun _ k => XS.iloadN Xg24.here hx rfl (hb hby d9_34) rfl  k) ?_
          show Run p e below s 2 32 (Q_rm9 Z a1 p2 bs lst n h0 n0) (T24.setTop (mkF m 35 #[.val (.ref a1), .val (.int p2), .val (.int gp), .val (.int (bs.length.toInt32))] [(.int gp)]))
          refine Run.go (fun _ k => XS.bipush Xg24.here hx rfl (hb hby d9_35) k) ?_
          show Run p e below s 2 32 (Q_rm9 Z a1 p2 bs lst n h0 n0) (T24.setTop (mkF m 37 #[.val (.ref a1), .val (.int p2), .val (.int gp), .val (.int (bs.length.toInt32))] [(.int (7 : Int32)), (.int gp)]))
          refine Run.go (fun _ k => XS.iushr Xg24.here hx rfl (hb hby d9_37) rfl k) ?_
          show Run p e below s 2 32 (Q_rm9 Z a1 p2 bs lst n h0 n0) (T24.setTop (mkF m 38 #[.val (.ref a1), .val (.int p2), .val (.int gp), .val (.int (bs.length.toInt32))] [(.int ((gp.toUInt32 >>> ((7 : Int32) &&& 31).toUInt32).toInt32))]))
          refine Run.go (fun _ k => XS.istoreN Xg24.here hx rfl (hb hby d9_38) rfl (l' := #[.val (.ref a1), .val (.int p2), .val (.int ((gp.toUInt32 >>> ((7 : Int32) &&& 31).toUInt32).toInt32)), .val (.int (bs.length.toInt32))]) rfl k) ?_
          show Run p e below s 2 32 (Q_rm9 Z a1 p2 bs lst n h0 n0) (T24.setTop (mkF m 39 #[.val (.ref a1), .val (.int p2), .val (.int ((gp.toUInt32 >>> ((7 : Int32) &&& 31).toUInt32).toInt32)), .val (.int (bs.length.toInt32))] []))
          refine Run.go (fun _ k => XS.goto Xg24.here hx rfl (pc0 := 39) (pc' := 17) rfl (hb hby d9_39) (by decide) (by decide) k) ?_
          show Run p e below s 2 32 (Q_rm9 Z a1 p2 bs lst n h0 n0) (T24.setTop (mkF m 17 #[.val (.ref a1), .val (.int p2), .val (.int ((gp.toUInt32 >>> ((7 : Int32) &&& 31).toUInt32).toInt32)), .val (.int (bs.length.toInt32))] []))
          exact ihLP13 kj (Nat.lt_succ_self kj) ((gp.toUInt32 >>> ((7 : Int32) &&& 31).toUInt32).toInt32) (cur ++ [((gp ||| (128 : Int32)).toInt8.toInt32)]) (2 * cn) (kc + 1) (ks + 16) T24.heap _ _ Xg24 rfl Ng24 Z24 fq24_1 fq24_0 (own_gs kj gp hg1 hgk).1 (own_gs kj gp hg1 hgk).2.1 (by rw [← hen, own_enc, if_neg hc15, List.append_assoc]; rfl) (by omega) (by omega) (by simp only [List.length_append, List.length_singleton]; omega)
        · show Run p e below s 2 32 (Q_rm9 Z a1 p2 bs lst n h0 n0) (T14.setTop (mkF m 31 #[.val (.ref a1), .val (.int p2), .val (.int gp), .val (.int (bs.length.toInt32))] [(.int ((gp ||| (128 : Int32)).toInt8.toInt32)), (.ref a1)]))
          obtain ⟨cq25, q25, q25'⟩ := fk14_1.cell
          obtain ⟨_, _, ⟨T25, L25, k25, n25⟩, -, X25, ⟨Lc25, hQ25, l25, y25, z25⟩, st25⟩ := X14.privateBack hx (y := (⟨"com/example/subjectory/subjectory/index/Postings", "append", "(B)V"⟩ : MethodName)) hown (mvT hZ (hw _ (List.mem_of_getElem? (i := 51) rfl))) (mvT hZ (hw _ (List.mem_of_getElem? (i := 52) rfl))) (own_psel (y := (⟨"com/example/subjectory/subjectory/index/Postings", "append", "(B)V"⟩ : MethodName)) (z := (⟨"com/example/subjectory/subjectory/index/Postings", "toValue", "()[B"⟩ : MethodName)) rfl (mvT hZ (hw _ (List.mem_of_getElem? (i := 24) rfl))) (Cond.privateMethod_at (mvP hZ (hw _ (List.mem_of_getElem? (i := 53) rfl)) (args := #[]))) (mvT hZ (hw _ (List.mem_of_getElem? (i := 52) rfl))) (by decide)) (Cond.privateMethod_at (mvP hZ (hw _ (List.mem_of_getElem? (i := 53) rfl)) (args := #[]))) (mvT hZ (hw _ (List.mem_of_getElem? (i := 54) rfl))) (by decide) (backOf (W := 0) (rm10x l Z a0 hw [] a1 ((gp ||| (128 : Int32)).toInt8.toInt32) cur p2 cn hh14 n0 Z14 fk14_0 (b_idem _) (by omega) hk23) hZ (hw _ (List.mem_of_getElem? (i := 54) rfl)) (hw _ (List.mem_of_getElem? (i := 7) rfl)) (by decide) (by decide)) (g := (mkF m 31 #[.val (.ref a1), .val (.int p2), .val (.int gp), .val (.int (bs.length.toInt32))] [(.int ((gp ||| (128 : Int32)).toInt8.toInt32)), (.ref a1)])) rfl (by rw [hml]; rfl) (Steps.refl _) (a := a1) (by rw [e14]; exact q25) q25' (argsL := [(.int ((gp ||| (128 : Int32)).toInt8.toInt32))]) (rest := []) (lenOf pd_2 rfl) rfl (by show 2 * 0 + _ ≤ _; exact Nat.le_of_eq rfl) (hb hby d9_31) (fun _ _ => ⟨rfl, e14, (show kc + 0 ≤ 2 from by omega), (show ks + 0 ≤ 32 from by omega)⟩)
          dsimp only [Pt.U, Pt.locs, Pt.cells, Pt.slots] at X25 l25 y25 z25 st25 hQ25
          have y25s := y25.symm; have z25s := z25.symm; subst l25 y25s z25s
          obtain ⟨rfl, N25q, K25q, fq25_0, fq25_1⟩ := hQ25
          have N25 := Fr.app N14 N25q
          have Z25 : n0 ≤ T25.heap.size := Nat.le_trans Z14 K25q.1
          obtain ⟨Lg25, Xg25, Ng25⟩ := Stand_gen X25 N25
          refine Run.tr st25 ?_
          show Run p e below s 2 32 (Q_rm9 Z a1 p2 bs lst n h0 n0) (T25.setTop (mkF m 34 #[.val (.ref a1), .val (.int p2), .val (.int gp), .val (.int (bs.length.toInt32))] []))
          refine Run.go (fun _ k => XS.iloadN Xg25.here hx rfl (hb hby d9_34) rfl  k) ?_
          show Run p e below s 2 32 (Q_rm9 Z a1 p2 bs lst n h0 n0) (T25.setTop (mkF m 35 #[.val (.ref a1), .val (.int p2), .val (.int gp), .val (.int (bs.length.toInt32))] [(.int gp)]))
          refine Run.go (fun _ k => XS.bipush Xg25.here hx rfl (hb hby d9_35) k) ?_
          show Run p e below s 2 32 (Q_rm9 Z a1 p2 bs lst n h0 n0) (T25.setTop (mkF m 37 #[.val (.ref a1), .val (.int p2), .val (.int gp), .val (.int (bs.length.toInt32))] [(.int (7 : Int32)), (.int gp)]))
          refine Run.go (fun _ k => XS.iushr Xg25.here hx rfl (hb hby d9_37) rfl k) ?_
          show Run p e below s 2 32 (Q_rm9 Z a1 p2 bs lst n h0 n0) (T25.setTop (mkF m 38 #[.val (.ref a1), .val (.int p2), .val (.int gp), .val (.int (bs.length.toInt32))] [(.int ((gp.toUInt32 >>> ((7 : Int32) &&& 31).toUInt32).toInt32))]))
          refine Run.go (fun _ k => XS.istoreN Xg25.here hx rfl (hb hby d9_38) rfl (l' := #[.val (.ref a1), .val (.int p2), .val (.int ((gp.toUInt32 >>> ((7 : Int32) &&& 31).toUInt32).toInt32)), .val (.int (bs.length.toInt32))]) rfl k) ?_
          show Run p e below s 2 32 (Q_rm9 Z a1 p2 bs lst n h0 n0) (T25.setTop (mkF m 39 #[.val (.ref a1), .val (.int p2), .val (.int ((gp.toUInt32 >>> ((7 : Int32) &&& 31).toUInt32).toInt32)), .val (.int (bs.length.toInt32))] []))
          refine Run.go (fun _ k => XS.goto Xg25.here hx rfl (pc0 := 39) (pc' := 17) rfl (hb hby d9_39) (by decide) (by decide) k) ?_
          show Run p e below s 2 32 (Q_rm9 Z a1 p2 bs lst n h0 n0) (T25.setTop (mkF m 17 #[.val (.ref a1), .val (.int p2), .val (.int ((gp.toUInt32 >>> ((7 : Int32) &&& 31).toUInt32).toInt32)), .val (.int (bs.length.toInt32))] []))
          exact ihLP13 kj (Nat.lt_succ_self kj) ((gp.toUInt32 >>> ((7 : Int32) &&& 31).toUInt32).toInt32) (cur ++ [((gp ||| (128 : Int32)).toInt8.toInt32)]) (cn) kc ks T25.heap _ _ Xg25 rfl Ng25 Z25 fq25_1 fq25_0 (own_gs kj gp hg1 hgk).1 (own_gs kj gp hg1 hgk).2.1 (by rw [← hen, own_enc, if_neg hc15, List.append_assoc]; rfl) (by omega) (by omega) (by simp only [List.length_append, List.length_singleton]; omega)
  exact LP13 4 (p2 - lst) bs n 0 0 h4 _ _ X7 e7 Ng4 Z4 hP16 fx8 hg0 (hg4) rfl (by have := own_l2 hn; omega) (by have := own_l2 hn; omega) (by omega)
theorem own_tv {Z : State} {h : Heap} {b : Addr} {bs : List Int32} {n : Nat} {f : Nat → Value} (A : Ary Z h b .byte (bs.length.toInt32).toNatClampNeg (fun i => if i < n then f i else (.int (0 : Int32)))) (hn : n ≤ 16) (hle : bs.length ≤ n) (hv : ∀ i (hi : i < bs.length), f i = .int bs[i]) : Ary Z h b .byte bs.length (fun q => .int (bs.getD q 0)) := by
  have hz : bs.length.toInt32.toInt = bs.length := len_toInt (by omega)
  have e : (bs.length.toInt32).toNatClampNeg = bs.length := by rw [Int32.toNatClampNeg, hz]; omega
  rw [e] at A
  refine A.congr fun i hi => ?_
  rw [if_pos (by omega), hv i hi, List.getD_eq_getElem?_getD, List.getElem?_eq_getElem hi]; rfl
theorem own_l16 {n : Nat} (h : n = 4 ∨ n = 8 ∨ n = 16) : n ≤ 16 := by omega
theorem own_len0 (n : Nat) (h : n ≤ 16) : ¬ (n.toInt32) < 0 ∧ (n.toInt32).toNatClampNeg = n := by
  have hz : n.toInt32.toInt = n := len_toInt (by omega)
  have e0 : (0 : Int32).toInt = 0 := rfl
  rw [Int32.lt_iff_toInt_lt, Int32.toNatClampNeg, hz]; omega
theorem own_ltn {i : Int32} {n : Nat} (h0 : ¬ i < 0) (hn : n < 2147483648) : i < n.toInt32 ↔ i.toNatClampNeg < n := by
  have e0 : (0 : Int32).toInt = 0 := rfl
  rw [Int32.lt_iff_toInt_lt] at h0
  rw [Int32.lt_iff_toInt_lt, len_toInt hn, Int32.toNatClampNeg]
  omega
theorem own_succ {i : Int32} {n : Nat} (h0 : ¬ i < 0) (hn : n < 2147483648) (h : i.toNatClampNeg < n) : (i + (1 : Int32)).toNatClampNeg = i.toNatClampNeg + 1 ∧ ¬ (i + (1 : Int32)) < 0 := by
  have e0 : (0 : Int32).toInt = 0 := rfl
  have e1 : (1 : Int32).toInt = 1 := rfl
  have q := c_iadd i 1
  have := rng32 i
  have := rng32 (i + 1)
  rw [Int32.lt_iff_toInt_lt] at h0
  rw [Int32.lt_iff_toInt_lt]
  simp only [Int32.toNatClampNeg] at *
  omega
theorem own_acc (P : Prop) [Decidable P] (c : Nat) : (if P then Int64.ofNat c else Int64.ofNat c + (1 : Int64)) = Int64.ofNat (if P then c else c + 1) := by
  by_cases q : P
  · rw [if_pos q, if_pos q]
  · rw [if_neg q, if_neg q, own_ofS]
theorem own_stp (bs : List Int32) (p1 ord gap sh : Int32) (j i : Nat) (hi : i < bs.length) (hR : (own_run bs p1 0 0).drop j = own_run (bs.drop i) ord gap sh) (hb : ¬ bs.getD i 0 < (0 : Int32)) :
    j < own_c bs ∧ (own_run bs p1 0 0).getD j 0 = ord + (gap ||| ((bs.getD i 0 &&& (127 : Int32)) <<< (sh &&& 31))) ∧ (own_run bs p1 0 0).drop (j + 1) = own_run (bs.drop (i + 1)) (ord + (gap ||| ((bs.getD i 0 &&& (127 : Int32)) <<< (sh &&& 31)))) 0 0 := by
  rw [own_drop bs i hi, own_run, if_neg hb] at hR
  have hj : j < (own_run bs p1 0 0).length := by
    refine Nat.lt_of_not_le fun q => ?_
    rw [List.drop_eq_nil_of_le q] at hR; cases hR
  have hj2 := hj
  rw [own_clen] at hj2
  rw [own_drop _ j hj] at hR
  injection hR with a b
  exact ⟨hj2, a, b⟩
theorem own_stn (bs : List Int32) (R : List Int32) (ord gap sh : Int32) (j i : Nat) (hi : i < bs.length) (hR : R.drop j = own_run (bs.drop i) ord gap sh) (hb : bs.getD i 0 < (0 : Int32)) : R.drop j = own_run (bs.drop (i + 1)) ord (gap ||| ((bs.getD i 0 &&& (127 : Int32)) <<< (sh &&& 31))) (sh + (7 : Int32)) := by
  rw [own_drop bs i hi, own_run, if_pos hb] at hR; exact hR
theorem own_frS (fr : Nat → Value) (R : List Int32) (j : Nat) (x : Int32) (h : ∀ q, q < j → fr q = .int (R.getD q 0)) (hx : R.getD j 0 = x) : ∀ q, q < j + 1 → (fun i => if i = j then Value.int x else fr i) q = .int (R.getD q 0) := fun q hq => by
  by_cases e : q = j
  · subst e; simp only [if_pos, hx]
  · simp only [if_neg e]; exact h q (by omega)
theorem own_end (bs : List Int32) (p1 ord gap sh : Int32) (j i : Nat) (hi : bs.length ≤ i) (hR : (own_run bs p1 0 0).drop j = own_run (bs.drop i) ord gap sh) : own_c bs ≤ j := by
  rw [List.drop_eq_nil_of_le hi, own_run] at hR
  rw [← own_clen bs p1 0 0]
  exact List.drop_eq_nil_iff.mp hR
theorem d4_0 : decode prog_24_method_4_code 0 = .ok (.aload_n 0, 1) := by decide +kernel
theorem d4_1 : decode prog_24_method_4_code 1 = .ok (.getfield 7, 3) := by decide +kernel
theorem d4_4 : decode prog_24_method_4_code 4 = .ok (.aload_n 0, 1) := by decide +kernel
theorem d4_5 : decode prog_24_method_4_code 5 = .ok (.getfield 20, 3) := by decide +kernel
theorem d4_8 : decode prog_24_method_4_code 8 = .ok (.invokestatic 27, 3) := by decide +kernel
theorem d4_11 : decode prog_24_method_4_code 11 = .ok (.areturn, 1) := by decide +kernel
def Q_rm4 (Z : State) (a1 : Addr) (bs : List Int32) (lst : Int32) (n : Nat) (h0 : Heap) (n0 : Nat) (v : Option Value) (h : Heap) (L : List Loc) : Prop := ∃ b : Addr, v = some (.ref b) ∧ Fr n0 L ∧ Keep h0 h [] ∧ h0.size ≤ b ∧ Ary Z h b .byte bs.length (fun q => .int (bs.getD q 0))
theorem ef_rm4 (m : MethodId) (x0 : Addr) : entryFrame m #[(.ref x0)] 1 = mkF m 0 #[.val (.ref x0)] [] := by first | (simp [entryFrame, mkF, argsToLocals, Value.category]; done) | rfl
set_option maxRecDepth 65536 in
set_option maxHeartbeats 40000000 in
theorem rm4 (l : Launch) (Z : State) (a0 : Array Value) (hw : ∀ d ∈ tables_1, d.before a0 Z = true) (ws : List Jvm.Cond) (a1 : Addr) (bs : List Int32) (lst : Int32) (n : Nat) (h0 : Heap) (n0 : Nat) (Z0 : n0 ≤ h0.size) (hP : Pst Z n0 h0 a1 bs lst n) :
    MetFree l (⟨"com/example/subjectory/subjectory/index/Postings", "toValue", "()[B"⟩ : MethodName) (head1 (Jvm.Cond.code (⟨"com/example/subjectory/subjectory/index/Postings", "toValue", "()[B"⟩ : MethodName) prog_24_method_4_code 1 (some (.array .byte)) :: ws) ({ frames := 2, cells := 1, slots := 16, locals := 32 } : Room)) (fun a U => a = #[(.ref a1)] ∧ Z.Warmed39 U.vm ∧ U.heap = h0) (fun _ _ _ _ _ => True) (fun _ U o U' => ∃ v L, o = .returned v ∧ Q_rm4 Z a1 bs lst n h0 n0 v U'.heap L ∧ FrameEnd U o U' L ({ frames := 2, cells := 1, slots := 16, locals := 32 } : Room).cells ({ frames := 2, cells := 1, slots := 16, locals := 32 } : Room).slots) := by
  refine MetFree.of_bodySF (plainFor_of_name pn_0) hisR ?_
  intro p e s m args below meth c s₁ Bd hml0 hP hK
  obtain ⟨rfl, hZ, hh⟩ := hP
  have hx := Bd.exec
  have hby := Bd.bytes
  have hml : c.maxLocals = 1 := hml0
  have hown : s.vm.findClass "com/example/subjectory/subjectory/index/Postings" = some m.cls := findClass_of_methodNamed Bd.named
  have hnm := (name_of_methodNamed Bd.named Bd.method).1
  have X0 : Stand p l e ({ frames := 2, cells := 1, slots := 16, locals := 32 } : Room) s m #[(.ref a1)] below meth c s₁ [] 0 0 := Stand.of_body Bd
  have e0 : s₁.heap = h0 := by rw [← hh, Bd.state]; rfl
  have N0 := Fr.nil n0
  show Run p e below s 1 16 (Q_rm4 Z a1 bs lst n h0 n0) (s₁.setTop (entryFrame m #[(.ref a1)] 1))
  refine Run.go (fun _ k => castTop (ef_rm4 m a1) k) ?_
  show Run p e below s 1 16 (Q_rm4 Z a1 bs lst n h0 n0) (s₁.setTop (mkF m 0 #[.val (.ref a1)] []))
  obtain ⟨g, f, fv, E1, F1, F2, F3, F4, -, gg, Eg, A1, hn, hlb, hB, hv⟩ := hP
  have ne_g_a1 : g ≠ a1 := Ary.ne A1 E1 (hw _ (List.mem_of_getElem? (i := 6) rfl))
  refine Run.go (fun _ k => XS.aloadN X0.here hx rfl (hb hby d4_0) rfl rfl k) ?_
  show Run p e below s 1 16 (Q_rm4 Z a1 bs lst n h0 n0) (s₁.setTop (mkF m 1 #[.val (.ref a1)] [(.ref a1)]))
  obtain ⟨T2, X2, e2, st2⟩ := getF X0 hx hZ hown (host := "") (Or.inl (hw _ (List.mem_of_getElem? (i := 15) rfl))) Via.refl e0 F1 (g := (mkF m 1 #[.val (.ref a1)] [(.ref a1)])) rfl rfl (hb hby d4_1)
  refine Run.go st2 ?_
  show Run p e below s 1 16 (Q_rm4 Z a1 bs lst n h0 n0) (T2.setTop (mkF m 4 #[.val (.ref a1)] [(.ref g)]))
  refine Run.go (fun _ k => XS.aloadN X2.here hx rfl (hb hby d4_4) rfl rfl k) ?_
  show Run p e below s 1 16 (Q_rm4 Z a1 bs lst n h0 n0) (T2.setTop (mkF m 5 #[.val (.ref a1)] [(.ref a1), (.ref g)]))
  obtain ⟨T3, X3, e3, st3⟩ := getF X2 hx hZ hown (host := "") (Or.inl (hw _ (List.mem_of_getElem? (i := 26) rfl))) Via.refl e2 F2 (g := (mkF m 5 #[.val (.ref a1)] [(.ref a1), (.ref g)])) rfl rfl (hb hby d4_5)
  refine Run.go st3 ?_
  show Run p e below s 1 16 (Q_rm4 Z a1 bs lst n h0 n0) (T3.setTop (mkF m 8 #[.val (.ref a1)] [(.int (bs.length.toInt32)), (.ref g)]))
  obtain ⟨_, _, ⟨T4, L4, k4, n4⟩, -, X4, ⟨Lc4, hQ4, l4, y4, z4⟩, st4⟩ := Jvm.LawKit.callS X3 hx (y := (⟨"java/util/Arrays", "copyOf", "([BI)[B"⟩ : MethodName)) hown (mvT hZ (hw _ (List.mem_of_getElem? (i := 28) rfl))) (mvT hZ (hw _ (List.mem_of_getElem? (i := 29) rfl))) (mvT hZ (hw _ (List.mem_of_getElem? (i := 30) rfl))) (mvT hZ (hw _ (List.mem_of_getElem? (i := 31) rfl))) (by decide) (backOf (W := 0) (rm5 l Z a0 hw [] g (bs.length.toInt32) n f h0 n0 Z0 A1 Eg (own_l16 hn) (own_len0 _ (Nat.le_trans hlb (own_l16 hn))).1 (by rw [(own_len0 _ (Nat.le_trans hlb (own_l16 hn))).2]; exact Nat.le_trans hlb (own_l16 hn)) hB) hZ (hw _ (List.mem_of_getElem? (i := 31) rfl)) (hw _ (List.mem_of_getElem? (i := 30) rfl)) (by decide) (by decide)) (g := (mkF m 8 #[.val (.ref a1)] [(.int (bs.length.toInt32)), (.ref g)])) rfl (by rw [hml]; rfl) (argsL := [(.ref g), (.int (bs.length.toInt32))]) (rest := []) (lenOf pd_1 rfl) rfl (by show 2 * 0 + _ ≤ _; exact Nat.le_of_eq rfl) (hb hby d4_8) (fun _ _ => ⟨rfl, e3, (by decide : 0 + 1 ≤ _), (by decide : 0 + 16 ≤ _)⟩)
  dsimp only [Pt.U, Pt.locs, Pt.cells, Pt.slots] at X4 l4 y4 z4 st4 hQ4
  subst l4 y4 z4
  obtain ⟨b5, rfl, N4q, K4q, s_b5, fq4_0, fq4_1⟩ := hQ4
  have N4 := Fr.app N0 N4q
  have K4 : Keep h0 T4.heap [] := (Keep.refl h0 []).trans K4q all0
  have g_b5 : n0 ≤ b5 := Nat.le_trans Z0 s_b5
  have sz_b5 : h0.size ≤ b5 := Nat.le_trans (Keep.refl h0 []).1 s_b5
  have ne_a1_b5 : a1 ≠ b5 := Nat.ne_of_lt (Nat.lt_of_lt_of_le E1.lt s_b5)
  have ne_g_b5 : g ≠ b5 := Nat.ne_of_lt (Nat.lt_of_lt_of_le Eg.lt s_b5)
  have Z4 : n0 ≤ T4.heap.size := Nat.le_trans Z0 K4q.1
  obtain ⟨Lg4, Xg4, Ng4⟩ := Stand_gen X4 N4
  refine Run.go st4 ?_
  show Run p e below s 1 16 (Q_rm4 Z a1 bs lst n h0 n0) (T4.setTop (mkF m 11 #[.val (.ref a1)] [(.ref b5)]))
  refine Run.retA Xg4 hx rfl Bd.returns rfl Bd.notSynchronized (hb hby d4_11) (by decide) (by decide) ?_
  show Q_rm4 Z a1 bs lst n h0 n0 _ T4.heap _
  exact ⟨_, rfl, Ng4, K4, sz_b5, own_tv fq4_1 (own_l16 hn) hlb hv⟩
theorem d8_0 : decode prog_24_method_5_code 0 = .ok (.lconst 0, 1) := by decide +kernel
theorem d8_1 : decode prog_24_method_5_code 1 = .ok (.lstore_n 1, 1) := by decide +kernel
theorem d8_2 : decode prog_24_method_5_code 2 = .ok (.aload_n 0, 1) := by decide +kernel
theorem d8_3 : decode prog_24_method_5_code 3 = .ok (.astore_n 3, 1) := by decide +kernel
theorem d8_4 : decode prog_24_method_5_code 4 = .ok (.aload_n 3, 1) := by decide +kernel
theorem d8_5 : decode prog_24_method_5_code 5 = .ok (.arraylength, 1) := by decide +kernel
theorem d8_6 : decode prog_24_method_5_code 6 = .ok (.istore 4, 2) := by decide +kernel
theorem d8_8 : decode prog_24_method_5_code 8 = .ok (.iconst 0, 1) := by decide +kernel
theorem d8_9 : decode prog_24_method_5_code 9 = .ok (.istore 5, 2) := by decide +kernel
theorem d8_11 : decode prog_24_method_5_code 11 = .ok (.iload 5, 2) := by decide +kernel
theorem d8_13 : decode prog_24_method_5_code 13 = .ok (.iload 4, 2) := by decide +kernel
theorem d8_15 : decode prog_24_method_5_code 15 = .ok (.if_icmp .ge 24, 3) := by decide +kernel
theorem d8_18 : decode prog_24_method_5_code 18 = .ok (.aload_n 3, 1) := by decide +kernel
theorem d8_19 : decode prog_24_method_5_code 19 = .ok (.iload 5, 2) := by decide +kernel
theorem d8_21 : decode prog_24_method_5_code 21 = .ok (.baload, 1) := by decide +kernel
theorem d8_22 : decode prog_24_method_5_code 22 = .ok (.istore 6, 2) := by decide +kernel
theorem d8_24 : decode prog_24_method_5_code 24 = .ok (.iload 6, 2) := by decide +kernel
theorem d8_26 : decode prog_24_method_5_code 26 = .ok (.ifCond .lt 7, 3) := by decide +kernel
theorem d8_33 : decode prog_24_method_5_code 33 = .ok (.iinc 5 1, 3) := by decide +kernel
theorem d8_36 : decode prog_24_method_5_code 36 = .ok (.goto (-25), 3) := by decide +kernel
theorem d8_29 : decode prog_24_method_5_code 29 = .ok (.lload_n 1, 1) := by decide +kernel
theorem d8_30 : decode prog_24_method_5_code 30 = .ok (.lconst 1, 1) := by decide +kernel
theorem d8_31 : decode prog_24_method_5_code 31 = .ok (.ladd, 1) := by decide +kernel
theorem d8_32 : decode prog_24_method_5_code 32 = .ok (.lstore_n 1, 1) := by decide +kernel
theorem d8_39 : decode prog_24_method_5_code 39 = .ok (.lload_n 1, 1) := by decide +kernel
theorem d8_40 : decode prog_24_method_5_code 40 = .ok (.lreturn, 1) := by decide +kernel
def Q_rm8 (Z : State) (a1 : Addr) (bs : List Int32) (h0 : Heap) (n0 : Nat) (v : Option Value) (h : Heap) (L : List Loc) : Prop := v = some (.long (Int64.ofNat (own_c bs))) ∧ Fr n0 L ∧ h = h0
theorem ef_rm8 (m : MethodId) (x0 : Addr) : entryFrame m #[(.ref x0)] 7 = mkF m 0 #[.val (.ref x0), .unset, .unset, .unset, .unset, .unset, .unset] [] := by first | (simp [entryFrame, mkF, argsToLocals, Value.category]; done) | rfl
set_option maxRecDepth 65536 in
set_option maxHeartbeats 40000000 in
theorem rm8 (l : Launch) (Z : State) (a0 : Array Value) (hw : ∀ d ∈ tables_1, d.before a0 Z = true) (ws : List Jvm.Cond) (a1 : Addr) (bs : List Int32) (h0 : Heap) (n0 : Nat) (Z0 : n0 ≤ h0.size) (A_a1 : Ary Z h0 a1 .byte bs.length (fun q => .int (bs.getD q 0))) (hnn : bs.length < 2147483648) :
    MetFree l (⟨"com/example/subjectory/subjectory/index/Postings", "count", "([B)J"⟩ : MethodName) (head1 (Jvm.Cond.code (⟨"com/example/subjectory/subjectory/index/Postings", "count", "([B)J"⟩ : MethodName) prog_24_method_5_code 7 (some .long) :: ws) ({ frames := 0, cells := 0, slots := 0, locals := 0 } : Room)) (fun a U => a = #[(.ref a1)] ∧ Z.Warmed39 U.vm ∧ U.heap = h0) (fun _ _ _ _ _ => True) (fun _ U o U' => ∃ v L, o = .returned v ∧ Q_rm8 Z a1 bs h0 n0 v U'.heap L ∧ FrameEnd U o U' L ({ frames := 0, cells := 0, slots := 0, locals := 0 } : Room).cells ({ frames := 0, cells := 0, slots := 0, locals := 0 } : Room).slots) := by
  refine MetFree.of_bodySF (plainFor_of_name pn_0) hisR ?_
  intro p e s m args below meth c s₁ Bd hml0 hP hK
  obtain ⟨rfl, hZ, hh⟩ := hP
  have hx := Bd.exec
  have hby := Bd.bytes
  have hml : c.maxLocals = 7 := hml0
  have hown : s.vm.findClass "com/example/subjectory/subjectory/index/Postings" = some m.cls := findClass_of_methodNamed Bd.named
  have hnm := (name_of_methodNamed Bd.named Bd.method).1
  have X0 : Stand p l e ({ frames := 0, cells := 0, slots := 0, locals := 0 } : Room) s m #[(.ref a1)] below meth c s₁ [] 0 0 := Stand.of_body Bd
  have e0 : s₁.heap = h0 := by rw [← hh, Bd.state]; rfl
  have N0 := Fr.nil n0
  show Run p e below s 0 0 (Q_rm8 Z a1 bs h0 n0) (s₁.setTop (entryFrame m #[(.ref a1)] 7))
  refine Run.go (fun _ k => castTop (ef_rm8 m a1) k) ?_
  show Run p e below s 0 0 (Q_rm8 Z a1 bs h0 n0) (s₁.setTop (mkF m 0 #[.val (.ref a1), .unset, .unset, .unset, .unset, .unset, .unset] []))
  refine Run.go (fun _ k => XS.lconst X0.here hx rfl (hb hby d8_0) k) ?_
  show Run p e below s 0 0 (Q_rm8 Z a1 bs h0 n0) (s₁.setTop (mkF m 1 #[.val (.ref a1), .unset, .unset, .unset, .unset, .unset, .unset] [(.long (0 : Int64))]))
  refine Run.go (fun _ k => XS.lstoreN X0.here hx rfl (hb hby d8_1) rfl (l' := #[.val (.ref a1), .val (.long (0 : Int64)), .second, .unset, .unset, .unset, .unset]) rfl k) ?_
  show Run p e below s 0 0 (Q_rm8 Z a1 bs h0 n0) (s₁.setTop (mkF m 2 #[.val (.ref a1), .val (.long (0 : Int64)), .second, .unset, .unset, .unset, .unset] []))
  refine Run.go (fun _ k => XS.aloadN X0.here hx rfl (hb hby d8_2) rfl rfl k) ?_
  show Run p e below s 0 0 (Q_rm8 Z a1 bs h0 n0) (s₁.setTop (mkF m 3 #[.val (.ref a1), .val (.long (0 : Int64)), .second, .unset, .unset, .unset, .unset] [(.ref a1)]))
  refine Run.go (fun _ k => XS.astoreN X0.here hx rfl (hb hby d8_3) rfl rfl (l' := #[.val (.ref a1), .val (.long (0 : Int64)), .second, .val (.ref a1), .unset, .unset, .unset]) rfl k) ?_
  show Run p e below s 0 0 (Q_rm8 Z a1 bs h0 n0) (s₁.setTop (mkF m 4 #[.val (.ref a1), .val (.long (0 : Int64)), .second, .val (.ref a1), .unset, .unset, .unset] []))
  refine Run.go (fun _ k => XS.aloadN X0.here hx rfl (hb hby d8_4) rfl rfl k) ?_
  show Run p e below s 0 0 (Q_rm8 Z a1 bs h0 n0) (s₁.setTop (mkF m 5 #[.val (.ref a1), .val (.long (0 : Int64)), .second, .val (.ref a1), .unset, .unset, .unset] [(.ref a1)]))
  refine Run.go (fun _ k => ary_len X0 hx hZ e0 A_a1 (g := (mkF m 5 #[.val (.ref a1), .val (.long (0 : Int64)), .second, .val (.ref a1), .unset, .unset, .unset] [(.ref a1)])) rfl rfl (hb hby d8_5) (z := (bs.length.toInt32)) rfl _ k) ?_
  show Run p e below s 0 0 (Q_rm8 Z a1 bs h0 n0) (s₁.setTop (mkF m 6 #[.val (.ref a1), .val (.long (0 : Int64)), .second, .val (.ref a1), .unset, .unset, .unset] [(.int (bs.length.toInt32))]))
  refine Run.go (fun _ k => XS.istore X0.here hx rfl (hb hby d8_6) rfl (l' := #[.val (.ref a1), .val (.long (0 : Int64)), .second, .val (.ref a1), .val (.int (bs.length.toInt32)), .unset, .unset]) rfl k) ?_
  show Run p e below s 0 0 (Q_rm8 Z a1 bs h0 n0) (s₁.setTop (mkF m 8 #[.val (.ref a1), .val (.long (0 : Int64)), .second, .val (.ref a1), .val (.int (bs.length.toInt32)), .unset, .unset] []))
  refine Run.go (fun _ k => XS.iconst X0.here hx rfl (hb hby d8_8) k) ?_
  show Run p e below s 0 0 (Q_rm8 Z a1 bs h0 n0) (s₁.setTop (mkF m 9 #[.val (.ref a1), .val (.long (0 : Int64)), .second, .val (.ref a1), .val (.int (bs.length.toInt32)), .unset, .unset] [(.int (0 : Int32))]))
  refine Run.go (fun _ k => XS.istore X0.here hx rfl (hb hby d8_9) rfl (l' := #[.val (.ref a1), .val (.long (0 : Int64)), .second, .val (.ref a1), .val (.int (bs.length.toInt32)), .val (.int (0 : Int32)), .unset]) rfl k) ?_
  show Run p e below s 0 0 (Q_rm8 Z a1 bs h0 n0) (s₁.setTop (mkF m 11 #[.val (.ref a1), .val (.long (0 : Int64)), .second, .val (.ref a1), .val (.int (bs.length.toInt32)), .val (.int (0 : Int32)), .unset] []))
  have LP2 : ∀ (kk : Nat) (acc : Int64) (i : Int32) (sl : Slot) (hsl : One sl) (T3 : State) (L3 : List Loc) (X3 : Stand p l e ({ frames := 0, cells := 0, slots := 0, locals := 0 } : Room) s m #[(.ref a1)] below meth c T3 L3 0 0) (e3 : T3.heap = h0) (N3 : Fr n0 L3) (hi0 : ¬ i < 0) (hi : i.toNatClampNeg ≤ bs.length) (hacc : acc = Int64.ofNat (own_c (bs.take i.toNatClampNeg))) (hk : bs.length - i.toNatClampNeg = kk), Run p e below s 0 0 (Q_rm8 Z a1 bs h0 n0) (T3.setTop (mkF m 11 #[.val (.ref a1), .val (.long acc), .second, .val (.ref a1), .val (.int (bs.length.toInt32)), .val (.int i), sl] [])) := by
    intro kk
    induction kk using Nat.strongRecOn with
    | _ kk ihLP2 =>
      intro acc i sl hsl T3 L3 X3 e3 N3 hi0 hi hacc hk
      show Run p e below s 0 0 (Q_rm8 Z a1 bs h0 n0) (T3.setTop (mkF m 11 #[.val (.ref a1), .val (.long acc), .second, .val (.ref a1), .val (.int (bs.length.toInt32)), .val (.int i), sl] []))
      refine Run.go (fun _ k => XS.iload X3.here hx rfl (hb hby d8_11) rfl  k) ?_
      show Run p e below s 0 0 (Q_rm8 Z a1 bs h0 n0) (T3.setTop (mkF m 13 #[.val (.ref a1), .val (.long acc), .second, .val (.ref a1), .val (.int (bs.length.toInt32)), .val (.int i), sl] [(.int i)]))
      refine Run.go (fun _ k => XS.iload X3.here hx rfl (hb hby d8_13) rfl  k) ?_
      show Run p e below s 0 0 (Q_rm8 Z a1 bs h0 n0) (T3.setTop (mkF m 15 #[.val (.ref a1), .val (.long acc), .second, .val (.ref a1), .val (.int (bs.length.toInt32)), .val (.int i), sl] [(.int (bs.length.toInt32)), (.int i)]))
      by_cases hc4 : (i < (bs.length.toInt32))
      · refine Run.go (fun _ k => XS.icmpNo X3.here hx rfl (hb hby d8_15) rfl (tlt hc4).2.1 k) ?_
        show Run p e below s 0 0 (Q_rm8 Z a1 bs h0 n0) (T3.setTop (mkF m 18 #[.val (.ref a1), .val (.long acc), .second, .val (.ref a1), .val (.int (bs.length.toInt32)), .val (.int i), sl] []))
        refine Run.go (fun _ k => XS.aloadN X3.here hx rfl (hb hby d8_18) rfl rfl k) ?_
        show Run p e below s 0 0 (Q_rm8 Z a1 bs h0 n0) (T3.setTop (mkF m 19 #[.val (.ref a1), .val (.long acc), .second, .val (.ref a1), .val (.int (bs.length.toInt32)), .val (.int i), sl] [(.ref a1)]))
        refine Run.go (fun _ k => XS.iload X3.here hx rfl (hb hby d8_19) rfl  k) ?_
        show Run p e below s 0 0 (Q_rm8 Z a1 bs h0 n0) (T3.setTop (mkF m 21 #[.val (.ref a1), .val (.long acc), .second, .val (.ref a1), .val (.int (bs.length.toInt32)), .val (.int i), sl] [(.int i), (.ref a1)]))
        refine Run.go (fun _ k => ary_bget X3 hx hZ e3 A_a1 (j := i) hi0 ((own_ltn hi0 hnn).mp hc4) (g := (mkF m 21 #[.val (.ref a1), .val (.long acc), .second, .val (.ref a1), .val (.int (bs.length.toInt32)), .val (.int i), sl] [(.int i), (.ref a1)])) rfl rfl (hb hby d8_21) rfl _ k) ?_
        show Run p e below s 0 0 (Q_rm8 Z a1 bs h0 n0) (T3.setTop (mkF m 22 #[.val (.ref a1), .val (.long acc), .second, .val (.ref a1), .val (.int (bs.length.toInt32)), .val (.int i), sl] [(.int (bs.getD i.toNatClampNeg 0))]))
        refine Run.go (fun _ k => XS.istoreS X3.here hx rfl (hb hby d8_22) rfl rfl hsl k) ?_
        show Run p e below s 0 0 (Q_rm8 Z a1 bs h0 n0) (T3.setTop (mkF m 24 #[.val (.ref a1), .val (.long acc), .second, .val (.ref a1), .val (.int (bs.length.toInt32)), .val (.int i), .val (.int (bs.getD i.toNatClampNeg 0))] []))
        refine Run.go (fun _ k => XS.iload X3.here hx rfl (hb hby d8_24) rfl  k) ?_
        show Run p e below s 0 0 (Q_rm8 Z a1 bs h0 n0) (T3.setTop (mkF m 26 #[.val (.ref a1), .val (.long acc), .second, .val (.ref a1), .val (.int (bs.length.toInt32)), .val (.int i), .val (.int (bs.getD i.toNatClampNeg 0))] [(.int (bs.getD i.toNatClampNeg 0))]))
        have J5 : ∀ (w6 : Int64) (hw6 : w6 = (if ((bs.getD i.toNatClampNeg 0) < (0 : Int32)) then acc else (acc + (1 : Int64)))) (T7 : State) (L7 : List Loc) (X7 : Stand p l e ({ frames := 0, cells := 0, slots := 0, locals := 0 } : Room) s m #[(.ref a1)] below meth c T7 L7 0 0) (e7 : T7.heap = h0) (N7 : Fr n0 L7), Run p e below s 0 0 (Q_rm8 Z a1 bs h0 n0) (T7.setTop (mkF m 33 #[.val (.ref a1), .val (.long w6), .second, .val (.ref a1), .val (.int (bs.length.toInt32)), .val (.int i), .val (.int (bs.getD i.toNatClampNeg 0))] [])) := by
          intro w6 hw6 T7 L7 X7 e7 N7
          show Run p e below s 0 0 (Q_rm8 Z a1 bs h0 n0) (T7.setTop (mkF m 33 #[.val (.ref a1), .val (.long w6), .second, .val (.ref a1), .val (.int (bs.length.toInt32)), .val (.int i), .val (.int (bs.getD i.toNatClampNeg 0))] []))
          refine Run.go (fun _ k => XS.iinc X7.here hx rfl (hb hby d8_33) rfl (l' := #[.val (.ref a1), .val (.long w6), .second, .val (.ref a1), .val (.int (bs.length.toInt32)), .val (.int (i + (1 : Int32))), .val (.int (bs.getD i.toNatClampNeg 0))]) rfl k) ?_
          show Run p e below s 0 0 (Q_rm8 Z a1 bs h0 n0) (T7.setTop (mkF m 36 #[.val (.ref a1), .val (.long w6), .second, .val (.ref a1), .val (.int (bs.length.toInt32)), .val (.int (i + (1 : Int32))), .val (.int (bs.getD i.toNatClampNeg 0))] []))
          refine Run.go (fun _ k => XS.goto X7.here hx rfl (pc0 := 36) (pc' := 11) rfl (hb hby d8_36) (by decide) (by decide) k) ?_
          show Run p e below s 0 0 (Q_rm8 Z a1 bs h0 n0) (T7.setTop (mkF m 11 #[.val (.ref a1), .val (.long w6), .second, .val (.ref a1), .val (.int (bs.length.toInt32)), .val (.int (i + (1 : Int32))), .val (.int (bs.getD i.toNatClampNeg 0))] []))
          exact ihLP2 (bs.length - (i + (1 : Int32)).toNatClampNeg) (by rw [← hk, (own_succ hi0 hnn ((own_ltn hi0 hnn).mp hc4)).1]; have := ((own_ltn hi0 hnn).mp hc4); omega) w6 (i + (1 : Int32)) _ (One.val rfl) _ _ X7 e7 N7 (own_succ hi0 hnn ((own_ltn hi0 hnn).mp hc4)).2 (by rw [(own_succ hi0 hnn ((own_ltn hi0 hnn).mp hc4)).1]; exact ((own_ltn hi0 hnn).mp hc4)) (by rw [(own_succ hi0 hnn ((own_ltn hi0 hnn).mp hc4)).1, own_cS bs _ _ ((own_ltn hi0 hnn).mp hc4) rfl, ← own_acc, ← hacc]; exact hw6) rfl
        by_cases hc8 : ((bs.getD i.toNatClampNeg 0) < (0 : Int32))
        · refine Run.go (fun _ k => XS.ifYes X3.here hx rfl (pc0 := 26) (pc' := 33) rfl (hb hby d8_26) rfl ((if0 _ _).trans (tlt hc8).1) (by decide) (by decide) k) ?_
          show Run p e below s 0 0 (Q_rm8 Z a1 bs h0 n0) (T3.setTop (mkF m 33 #[.val (.ref a1), .val (.long acc), .second, .val (.ref a1), .val (.int (bs.length.toInt32)), .val (.int i), .val (.int (bs.getD i.toNatClampNeg 0))] []))
          exact J5 _ (by rw [if_pos hc8]) _ _ X3 e3 N3
        · refine Run.go (fun _ k => XS.ifNo X3.here hx rfl (hb hby d8_26) rfl ((if0 _ _).trans (flt hc8).1) k) ?_
          show Run p e below s 0 0 (Q_rm8 Z a1 bs h0 n0) (T3.setTop (mkF m 29 #[.val (.ref a1), .val (.long acc), .second, .val (.ref a1), .val (.int (bs.length.toInt32)), .val (.int i), .val (.int (bs.getD i.toNatClampNeg 0))] []))
          refine Run.go (fun _ k => XS.lloadN X3.here hx rfl (hb hby d8_29) rfl  k) ?_
          show Run p e below s 0 0 (Q_rm8 Z a1 bs h0 n0) (T3.setTop (mkF m 30 #[.val (.ref a1), .val (.long acc), .second, .val (.ref a1), .val (.int (bs.length.toInt32)), .val (.int i), .val (.int (bs.getD i.toNatClampNeg 0))] [(.long acc)]))
          refine Run.go (fun _ k => XS.lconst X3.here hx rfl (hb hby d8_30) k) ?_
          show Run p e below s 0 0 (Q_rm8 Z a1 bs h0 n0) (T3.setTop (mkF m 31 #[.val (.ref a1), .val (.long acc), .second, .val (.ref a1), .val (.int (bs.length.toInt32)), .val (.int i), .val (.int (bs.getD i.toNatClampNeg 0))] [(.long (1 : Int64)), (.long acc)]))
          refine Run.go (fun _ k => XS.ladd X3.here hx rfl (hb hby d8_31) rfl k) ?_
          show Run p e below s 0 0 (Q_rm8 Z a1 bs h0 n0) (T3.setTop (mkF m 32 #[.val (.ref a1), .val (.long acc), .second, .val (.ref a1), .val (.int (bs.length.toInt32)), .val (.int i), .val (.int (bs.getD i.toNatClampNeg 0))] [(.long (acc + (1 : Int64)))]))
          refine Run.go (fun _ k => XS.lstoreN X3.here hx rfl (hb hby d8_32) rfl (l' := #[.val (.ref a1), .val (.long (acc + (1 : Int64))), .second, .val (.ref a1), .val (.int (bs.length.toInt32)), .val (.int i), .val (.int (bs.getD i.toNatClampNeg 0))]) rfl k) ?_
          show Run p e below s 0 0 (Q_rm8 Z a1 bs h0 n0) (T3.setTop (mkF m 33 #[.val (.ref a1), .val (.long (acc + (1 : Int64))), .second, .val (.ref a1), .val (.int (bs.length.toInt32)), .val (.int i), .val (.int (bs.getD i.toNatClampNeg 0))] []))
          exact J5 _ (by rw [if_neg hc8]) _ _ X3 e3 N3
      · refine Run.go (fun _ k => XS.icmpYes X3.here hx rfl (pc0 := 15) (pc' := 39) rfl (hb hby d8_15) rfl (flt hc4).2.1 (by decide) (by decide) k) ?_
        show Run p e below s 0 0 (Q_rm8 Z a1 bs h0 n0) (T3.setTop (mkF m 39 #[.val (.ref a1), .val (.long acc), .second, .val (.ref a1), .val (.int (bs.length.toInt32)), .val (.int i), sl] []))
        refine Run.go (fun _ k => XS.lloadN X3.here hx rfl (hb hby d8_39) rfl  k) ?_
        show Run p e below s 0 0 (Q_rm8 Z a1 bs h0 n0) (T3.setTop (mkF m 40 #[.val (.ref a1), .val (.long acc), .second, .val (.ref a1), .val (.int (bs.length.toInt32)), .val (.int i), sl] [(.long acc)]))
        refine Run.retJ X3 hx Bd.returns Bd.notSynchronized (hb hby d8_40) (by decide) (by decide) ?_
        show Q_rm8 Z a1 bs h0 n0 _ T3.heap _
        exact ⟨congrArg some (congrArg Value.long (show acc = (Int64.ofNat (own_c bs)) from (by have := mt (own_ltn hi0 hnn).mpr hc4; rw [hacc, List.take_of_length_le (by omega)]))), N3, e3⟩
  exact LP2 (bs.length - (0 : Int32).toNatClampNeg) (0 : Int64) (0 : Int32) _ One.u _ _ X0 e0 N0 (by decide) (Nat.zero_le _) rfl rfl
theorem d7_0 : decode prog_24_method_6_code 0 = .ok (.aload_n 1, 1) := by decide +kernel
theorem d7_1 : decode prog_24_method_6_code 1 = .ok (.invokestatic 33, 3) := by decide +kernel
theorem pd_3 : parseMethodDescriptor "([B)J" = some ⟨[(.array .byte)], some .long⟩ := by decide +kernel
theorem d7_4 : decode prog_24_method_6_code 4 = .ok (.l2i, 1) := by decide +kernel
theorem d7_5 : decode prog_24_method_6_code 5 = .ok (.newarray .int, 2) := by decide +kernel
theorem d7_7 : decode prog_24_method_6_code 7 = .ok (.astore_n 2, 1) := by decide +kernel
theorem d7_8 : decode prog_24_method_6_code 8 = .ok (.iconst 0, 1) := by decide +kernel
theorem d7_9 : decode prog_24_method_6_code 9 = .ok (.istore_n 3, 1) := by decide +kernel
theorem d7_10 : decode prog_24_method_6_code 10 = .ok (.iload_n 0, 1) := by decide +kernel
theorem d7_11 : decode prog_24_method_6_code 11 = .ok (.istore 4, 2) := by decide +kernel
theorem d7_13 : decode prog_24_method_6_code 13 = .ok (.iconst 0, 1) := by decide +kernel
theorem d7_14 : decode prog_24_method_6_code 14 = .ok (.istore 5, 2) := by decide +kernel
theorem d7_16 : decode prog_24_method_6_code 16 = .ok (.iconst 0, 1) := by decide +kernel
theorem d7_17 : decode prog_24_method_6_code 17 = .ok (.istore 6, 2) := by decide +kernel
theorem d7_19 : decode prog_24_method_6_code 19 = .ok (.aload_n 1, 1) := by decide +kernel
theorem d7_20 : decode prog_24_method_6_code 20 = .ok (.astore 7, 2) := by decide +kernel
theorem d7_22 : decode prog_24_method_6_code 22 = .ok (.aload 7, 2) := by decide +kernel
theorem d7_24 : decode prog_24_method_6_code 24 = .ok (.arraylength, 1) := by decide +kernel
theorem d7_25 : decode prog_24_method_6_code 25 = .ok (.istore 8, 2) := by decide +kernel
theorem d7_27 : decode prog_24_method_6_code 27 = .ok (.iconst 0, 1) := by decide +kernel
theorem d7_28 : decode prog_24_method_6_code 28 = .ok (.istore 9, 2) := by decide +kernel
theorem d7_30 : decode prog_24_method_6_code 30 = .ok (.iload 9, 2) := by decide +kernel
theorem d7_32 : decode prog_24_method_6_code 32 = .ok (.iload 8, 2) := by decide +kernel
theorem d7_34 : decode prog_24_method_6_code 34 = .ok (.if_icmp .ge 61, 3) := by decide +kernel
theorem d7_37 : decode prog_24_method_6_code 37 = .ok (.aload 7, 2) := by decide +kernel
theorem d7_39 : decode prog_24_method_6_code 39 = .ok (.iload 9, 2) := by decide +kernel
theorem d7_41 : decode prog_24_method_6_code 41 = .ok (.baload, 1) := by decide +kernel
theorem d7_42 : decode prog_24_method_6_code 42 = .ok (.istore 10, 2) := by decide +kernel
theorem d7_44 : decode prog_24_method_6_code 44 = .ok (.iload 5, 2) := by decide +kernel
theorem d7_46 : decode prog_24_method_6_code 46 = .ok (.iload 10, 2) := by decide +kernel
theorem d7_48 : decode prog_24_method_6_code 48 = .ok (.bipush 127, 2) := by decide +kernel
theorem d7_50 : decode prog_24_method_6_code 50 = .ok (.iand, 1) := by decide +kernel
theorem d7_51 : decode prog_24_method_6_code 51 = .ok (.iload 6, 2) := by decide +kernel
theorem d7_53 : decode prog_24_method_6_code 53 = .ok (.ishl, 1) := by decide +kernel
theorem d7_54 : decode prog_24_method_6_code 54 = .ok (.ior, 1) := by decide +kernel
theorem d7_55 : decode prog_24_method_6_code 55 = .ok (.istore 5, 2) := by decide +kernel
theorem d7_57 : decode prog_24_method_6_code 57 = .ok (.iload 10, 2) := by decide +kernel
theorem d7_59 : decode prog_24_method_6_code 59 = .ok (.ifCond .lt 27, 3) := by decide +kernel
theorem d7_86 : decode prog_24_method_6_code 86 = .ok (.iinc 6 7, 3) := by decide +kernel
theorem d7_89 : decode prog_24_method_6_code 89 = .ok (.iinc 9 1, 3) := by decide +kernel
theorem d7_92 : decode prog_24_method_6_code 92 = .ok (.goto (-62), 3) := by decide +kernel
theorem d7_62 : decode prog_24_method_6_code 62 = .ok (.iload 4, 2) := by decide +kernel
theorem d7_64 : decode prog_24_method_6_code 64 = .ok (.iload 5, 2) := by decide +kernel
theorem d7_66 : decode prog_24_method_6_code 66 = .ok (.iadd, 1) := by decide +kernel
theorem d7_67 : decode prog_24_method_6_code 67 = .ok (.istore 4, 2) := by decide +kernel
theorem d7_69 : decode prog_24_method_6_code 69 = .ok (.aload_n 2, 1) := by decide +kernel
theorem d7_70 : decode prog_24_method_6_code 70 = .ok (.iload_n 3, 1) := by decide +kernel
theorem d7_71 : decode prog_24_method_6_code 71 = .ok (.iload 4, 2) := by decide +kernel
theorem d7_73 : decode prog_24_method_6_code 73 = .ok (.iastore, 1) := by decide +kernel
theorem d7_74 : decode prog_24_method_6_code 74 = .ok (.iinc 3 1, 3) := by decide +kernel
theorem d7_77 : decode prog_24_method_6_code 77 = .ok (.iconst 0, 1) := by decide +kernel
theorem d7_78 : decode prog_24_method_6_code 78 = .ok (.istore 5, 2) := by decide +kernel
theorem d7_80 : decode prog_24_method_6_code 80 = .ok (.iconst 0, 1) := by decide +kernel
theorem d7_81 : decode prog_24_method_6_code 81 = .ok (.istore 6, 2) := by decide +kernel
theorem d7_83 : decode prog_24_method_6_code 83 = .ok (.goto 6, 3) := by decide +kernel
theorem d7_95 : decode prog_24_method_6_code 95 = .ok (.aload_n 2, 1) := by decide +kernel
theorem d7_96 : decode prog_24_method_6_code 96 = .ok (.areturn, 1) := by decide +kernel
def Q_rm7 (Z : State) (p1 : Int32) (a2 : Addr) (bs : List Int32) (h0 : Heap) (n0 : Nat) (v : Option Value) (h : Heap) (L : List Loc) : Prop := ∃ b : Addr, v = some (.ref b) ∧ Fr n0 L ∧ Keep h0 h [] ∧ h0.size ≤ b ∧ Ary Z h b .int (own_run bs p1 0 0).length (fun q => .int ((own_run bs p1 0 0).getD q 0))
theorem ef_rm7 (m : MethodId) (x0 : Int32) (x1 : Addr) : entryFrame m #[(.int x0), (.ref x1)] 11 = mkF m 0 #[.val (.int x0), .val (.ref x1), .unset, .unset, .unset, .unset, .unset, .unset, .unset, .unset, .unset] [] := by first | (simp [entryFrame, mkF, argsToLocals, Value.category]; done) | rfl
set_option maxRecDepth 65536 in
set_option maxHeartbeats 40000000 in
theorem rm7 (l : Launch) (Z : State) (a0 : Array Value) (hw : ∀ d ∈ tables_1, d.before a0 Z = true) (ws : List Jvm.Cond) (p1 : Int32) (a2 : Addr) (bs : List Int32) (h0 : Heap) (n0 : Nat) (Z0 : n0 ≤ h0.size) (A_a2 : Ary Z h0 a2 .byte bs.length (fun q => .int (bs.getD q 0))) (hbl : bs.length ≤ 16) :
    MetFree l (⟨"com/example/subjectory/subjectory/index/Postings", "ordinals", "(I[B)[I"⟩ : MethodName) (head1 (Jvm.Cond.code (⟨"com/example/subjectory/subjectory/index/Postings", "ordinals", "(I[B)[I"⟩ : MethodName) prog_24_method_6_code 11 (some (.array .int)) :: ws) ({ frames := 1, cells := 1, slots := 16, locals := 18 } : Room)) (fun a U => a = #[(.int p1), (.ref a2)] ∧ Z.Warmed39 U.vm ∧ U.heap = h0) (fun _ _ _ _ _ => True) (fun _ U o U' => ∃ v L, o = .returned v ∧ Q_rm7 Z p1 a2 bs h0 n0 v U'.heap L ∧ FrameEnd U o U' L ({ frames := 1, cells := 1, slots := 16, locals := 18 } : Room).cells ({ frames := 1, cells := 1, slots := 16, locals := 18 } : Room).slots) := by
  refine MetFree.of_bodySF (plainFor_of_name pn_0) hisR ?_
  intro p e s m args below meth c s₁ Bd hml0 hP hK
  obtain ⟨rfl, hZ, hh⟩ := hP
  have hx := Bd.exec
  have hby := Bd.bytes
  have hml : c.maxLocals = 11 := hml0
  have hown : s.vm.findClass "com/example/subjectory/subjectory/index/Postings" = some m.cls := findClass_of_methodNamed Bd.named
  have hnm := (name_of_methodNamed Bd.named Bd.method).1
  have X0 : Stand p l e ({ frames := 1, cells := 1, slots := 16, locals := 18 } : Room) s m #[(.int p1), (.ref a2)] below meth c s₁ [] 0 0 := Stand.of_body Bd
  have e0 : s₁.heap = h0 := by rw [← hh, Bd.state]; rfl
  have N0 := Fr.nil n0
  show Run p e below s 1 16 (Q_rm7 Z p1 a2 bs h0 n0) (s₁.setTop (entryFrame m #[(.int p1), (.ref a2)] 11))
  refine Run.go (fun _ k => castTop (ef_rm7 m p1 a2) k) ?_
  show Run p e below s 1 16 (Q_rm7 Z p1 a2 bs h0 n0) (s₁.setTop (mkF m 0 #[.val (.int p1), .val (.ref a2), .unset, .unset, .unset, .unset, .unset, .unset, .unset, .unset, .unset] []))
  have hcb : own_c bs ≤ 16 := Nat.le_trans (own_cle bs) hbl
  have hc31 : own_c bs < 2147483648 := by omega
  refine Run.go (fun _ k => XS.aloadN X0.here hx rfl (hb hby d7_0) rfl rfl k) ?_
  show Run p e below s 1 16 (Q_rm7 Z p1 a2 bs h0 n0) (s₁.setTop (mkF m 1 #[.val (.int p1), .val (.ref a2), .unset, .unset, .unset, .unset, .unset, .unset, .unset, .unset, .unset] [(.ref a2)]))
  obtain ⟨_, _, ⟨T3, L3, k3, n3⟩, -, X3, ⟨Lc3, hQ3, l3, y3, z3⟩, st3⟩ := Jvm.LawKit.callS X0 hx (y := (⟨"com/example/subjectory/subjectory/index/Postings", "count", "([B)J"⟩ : MethodName)) hown (mvT hZ (hw _ (List.mem_of_getElem? (i := 42) rfl))) (mvT hZ (hw _ (List.mem_of_getElem? (i := 43) rfl))) (mvT hZ (hw _ (List.mem_of_getElem? (i := 7) rfl))) (mvT hZ (hw _ (List.mem_of_getElem? (i := 44) rfl))) (by decide) (backOf (W := 0) (rm8 l Z a0 hw [] a2 bs h0 n0 Z0 A_a2 (by omega)) hZ (hw _ (List.mem_of_getElem? (i := 44) rfl)) (hw _ (List.mem_of_getElem? (i := 7) rfl)) (by decide) (by decide)) (g := (mkF m 1 #[.val (.int p1), .val (.ref a2), .unset, .unset, .unset, .unset, .unset, .unset, .unset, .unset, .unset] [(.ref a2)])) rfl (by rw [hml]; rfl) (argsL := [(.ref a2)]) (rest := []) (lenOf pd_3 rfl) rfl (by show 2 * 0 + _ ≤ _; exact Nat.le_of_eq rfl) (hb hby d7_1) (fun _ _ => ⟨rfl, e0, (by decide : 0 + 0 ≤ _), (by decide : 0 + 0 ≤ _)⟩)
  dsimp only [Pt.U, Pt.locs, Pt.cells, Pt.slots] at X3 l3 y3 z3 st3 hQ3
  subst l3 y3 z3
  obtain ⟨rfl, N3q, e3q⟩ := hQ3
  have N3 := Fr.app N0 N3q
  obtain ⟨Lg3, Xg3, Ng3⟩ := Stand_gen X3 N3
  refine Run.go st3 ?_
  show Run p e below s 1 16 (Q_rm7 Z p1 a2 bs h0 n0) (T3.setTop (mkF m 4 #[.val (.int p1), .val (.ref a2), .unset, .unset, .unset, .unset, .unset, .unset, .unset, .unset, .unset] [(.long (Int64.ofNat (own_c bs)))]))
  refine Run.go (fun _ k => XS.l2i Xg3.here hx rfl (hb hby d7_4) rfl k) ?_
  show Run p e below s 1 16 (Q_rm7 Z p1 a2 bs h0 n0) (T3.setTop (mkF m 5 #[.val (.int p1), .val (.ref a2), .unset, .unset, .unset, .unset, .unset, .unset, .unset, .unset, .unset] [(.int ((Int64.ofNat (own_c bs)).toInt32))]))
  obtain ⟨T4, h4, k4, X4, e4, E4, A4, st4⟩ := newP Xg3 hx hZ (hw _ (List.mem_of_getElem? (i := 45) rfl)) e3q (g := (mkF m 5 #[.val (.int p1), .val (.ref a2), .unset, .unset, .unset, .unset, .unset, .unset, .unset, .unset, .unset] [(.int ((Int64.ofNat (own_c bs)).toInt32))])) rfl (hb hby d7_5) rfl (own_sz _ hcb).1 (cap := 16) (by rw [(own_sz _ hcb).2]; exact hcb) (by decide) (by decide) (by decide)
  obtain ⟨r, g4⟩ : ∃ z, z = h0.size := ⟨_, rfl⟩
  rw [← g4] at A4 st4
  have g_r : n0 ≤ r := Nat.le_trans Z0 (Nat.le_of_eq g4.symm)
  have sz_r : h0.size ≤ r := Nat.le_trans (Keep.refl h0 []).1 (Nat.le_of_eq g4.symm)
  have Z4 : n0 ≤ h4.size := Nat.le_trans Z0 E4.1
  have K4 : Keep h0 h4 [] := (Keep.refl h0 []).ext E4
  have ne_a2_r : a2 ≠ r := Nat.ne_of_lt (Nat.lt_of_lt_of_le A_a2.lt (Nat.le_of_eq g4.symm))
  have fx5 : Ary Z h4 r .int (own_c bs) (fun _ => (.int (0 : Int32))) := Ary.new A4 (own_sz _ hcb).2
  refine Run.go st4 ?_
  show Run p e below s 1 16 (Q_rm7 Z p1 a2 bs h0 n0) (T4.setTop (mkF m 7 #[.val (.int p1), .val (.ref a2), .unset, .unset, .unset, .unset, .unset, .unset, .unset, .unset, .unset] [(.ref r)]))
  refine Run.go (fun _ k => XS.astoreN X4.here hx rfl (hb hby d7_7) rfl rfl (l' := #[.val (.int p1), .val (.ref a2), .val (.ref r), .unset, .unset, .unset, .unset, .unset, .unset, .unset, .unset]) rfl k) ?_
  show Run p e below s 1 16 (Q_rm7 Z p1 a2 bs h0 n0) (T4.setTop (mkF m 8 #[.val (.int p1), .val (.ref a2), .val (.ref r), .unset, .unset, .unset, .unset, .unset, .unset, .unset, .unset] []))
  refine Run.go (fun _ k => XS.iconst X4.here hx rfl (hb hby d7_8) k) ?_
  show Run p e below s 1 16 (Q_rm7 Z p1 a2 bs h0 n0) (T4.setTop (mkF m 9 #[.val (.int p1), .val (.ref a2), .val (.ref r), .unset, .unset, .unset, .unset, .unset, .unset, .unset, .unset] [(.int (0 : Int32))]))
  refine Run.go (fun _ k => XS.istoreN X4.here hx rfl (hb hby d7_9) rfl (l' := #[.val (.int p1), .val (.ref a2), .val (.ref r), .val (.int (0 : Int32)), .unset, .unset, .unset, .unset, .unset, .unset, .unset]) rfl k) ?_
  show Run p e below s 1 16 (Q_rm7 Z p1 a2 bs h0 n0) (T4.setTop (mkF m 10 #[.val (.int p1), .val (.ref a2), .val (.ref r), .val (.int (0 : Int32)), .unset, .unset, .unset, .unset, .unset, .unset, .unset] []))
  refine Run.go (fun _ k => XS.iloadN X4.here hx rfl (hb hby d7_10) rfl  k) ?_
  show Run p e below s 1 16 (Q_rm7 Z p1 a2 bs h0 n0) (T4.setTop (mkF m 11 #[.val (.int p1), .val (.ref a2), .val (.ref r), .val (.int (0 : Int32)), .unset, .unset, .unset, .unset, .unset, .unset, .unset] [(.int p1)]))
  refine Run.go (fun _ k => XS.istore X4.here hx rfl (hb hby d7_11) rfl (l' := #[.val (.int p1), .val (.ref a2), .val (.ref r), .val (.int (0 : Int32)), .val (.int p1), .unset, .unset, .unset, .unset, .unset, .unset]) rfl k) ?_
  show Run p e below s 1 16 (Q_rm7 Z p1 a2 bs h0 n0) (T4.setTop (mkF m 13 #[.val (.int p1), .val (.ref a2), .val (.ref r), .val (.int (0 : Int32)), .val (.int p1), .unset, .unset, .unset, .unset, .unset, .unset] []))
  refine Run.go (fun _ k => XS.iconst X4.here hx rfl (hb hby d7_13) k) ?_
  show Run p e below s 1 16 (Q_rm7 Z p1 a2 bs h0 n0) (T4.setTop (mkF m 14 #[.val (.int p1), .val (.ref a2), .val (.ref r), .val (.int (0 : Int32)), .val (.int p1), .unset, .unset, .unset, .unset, .unset, .unset] [(.int (0 : Int32))]))
  refine Run.go (fun _ k => XS.istore X4.here hx rfl (hb hby d7_14) rfl (l' := #[.val (.int p1), .val (.ref a2), .val (.ref r), .val (.int (0 : Int32)), .val (.int p1), .val (.int (0 : Int32)), .unset, .unset, .unset, .unset, .unset]) rfl k) ?_
  show Run p e below s 1 16 (Q_rm7 Z p1 a2 bs h0 n0) (T4.setTop (mkF m 16 #[.val (.int p1), .val (.ref a2), .val (.ref r), .val (.int (0 : Int32)), .val (.int p1), .val (.int (0 : Int32)), .unset, .unset, .unset, .unset, .unset] []))
  refine Run.go (fun _ k => XS.iconst X4.here hx rfl (hb hby d7_16) k) ?_
  show Run p e below s 1 16 (Q_rm7 Z p1 a2 bs h0 n0) (T4.setTop (mkF m 17 #[.val (.int p1), .val (.ref a2), .val (.ref r), .val (.int (0 : Int32)), .val (.int p1), .val (.int (0 : Int32)), .unset, .unset, .unset, .unset, .unset] [(.int (0 : Int32))]))
  refine Run.go (fun _ k => XS.istore X4.here hx rfl (hb hby d7_17) rfl (l' := #[.val (.int p1), .val (.ref a2), .val (.ref r), .val (.int (0 : Int32)), .val (.int p1), .val (.int (0 : Int32)), .val (.int (0 : Int32)), .unset, .unset, .unset, .unset]) rfl k) ?_
  show Run p e below s 1 16 (Q_rm7 Z p1 a2 bs h0 n0) (T4.setTop (mkF m 19 #[.val (.int p1), .val (.ref a2), .val (.ref r), .val (.int (0 : Int32)), .val (.int p1), .val (.int (0 : Int32)), .val (.int (0 : Int32)), .unset, .unset, .unset, .unset] []))
  refine Run.go (fun _ k => XS.aloadN X4.here hx rfl (hb hby d7_19) rfl rfl k) ?_
  show Run p e below s 1 16 (Q_rm7 Z p1 a2 bs h0 n0) (T4.setTop (mkF m 20 #[.val (.int p1), .val (.ref a2), .val (.ref r), .val (.int (0 : Int32)), .val (.int p1), .val (.int (0 : Int32)), .val (.int (0 : Int32)), .unset, .unset, .unset, .unset] [(.ref a2)]))
  refine Run.go (fun _ k => XS.astore X4.here hx rfl (hb hby d7_20) rfl rfl (l' := #[.val (.int p1), .val (.ref a2), .val (.ref r), .val (.int (0 : Int32)), .val (.int p1), .val (.int (0 : Int32)), .val (.int (0 : Int32)), .val (.ref a2), .unset, .unset, .unset]) rfl k) ?_
  show Run p e below s 1 16 (Q_rm7 Z p1 a2 bs h0 n0) (T4.setTop (mkF m 22 #[.val (.int p1), .val (.ref a2), .val (.ref r), .val (.int (0 : Int32)), .val (.int p1), .val (.int (0 : Int32)), .val (.int (0 : Int32)), .val (.ref a2), .unset, .unset, .unset] []))
  refine Run.go (fun _ k => XS.aload X4.here hx rfl (hb hby d7_22) rfl rfl k) ?_
  show Run p e below s 1 16 (Q_rm7 Z p1 a2 bs h0 n0) (T4.setTop (mkF m 24 #[.val (.int p1), .val (.ref a2), .val (.ref r), .val (.int (0 : Int32)), .val (.int p1), .val (.int (0 : Int32)), .val (.int (0 : Int32)), .val (.ref a2), .unset, .unset, .unset] [(.ref a2)]))
  have fx6 := (A_a2.ext E4)
  refine Run.go (fun _ k => ary_len X4 hx hZ e4 fx6 (g := (mkF m 24 #[.val (.int p1), .val (.ref a2), .val (.ref r), .val (.int (0 : Int32)), .val (.int p1), .val (.int (0 : Int32)), .val (.int (0 : Int32)), .val (.ref a2), .unset, .unset, .unset] [(.ref a2)])) rfl rfl (hb hby d7_24) (z := (bs.length.toInt32)) rfl _ k) ?_
  show Run p e below s 1 16 (Q_rm7 Z p1 a2 bs h0 n0) (T4.setTop (mkF m 25 #[.val (.int p1), .val (.ref a2), .val (.ref r), .val (.int (0 : Int32)), .val (.int p1), .val (.int (0 : Int32)), .val (.int (0 : Int32)), .val (.ref a2), .unset, .unset, .unset] [(.int (bs.length.toInt32))]))
  refine Run.go (fun _ k => XS.istore X4.here hx rfl (hb hby d7_25) rfl (l' := #[.val (.int p1), .val (.ref a2), .val (.ref r), .val (.int (0 : Int32)), .val (.int p1), .val (.int (0 : Int32)), .val (.int (0 : Int32)), .val (.ref a2), .val (.int (bs.length.toInt32)), .unset, .unset]) rfl k) ?_
  show Run p e below s 1 16 (Q_rm7 Z p1 a2 bs h0 n0) (T4.setTop (mkF m 27 #[.val (.int p1), .val (.ref a2), .val (.ref r), .val (.int (0 : Int32)), .val (.int p1), .val (.int (0 : Int32)), .val (.int (0 : Int32)), .val (.ref a2), .val (.int (bs.length.toInt32)), .unset, .unset] []))
  refine Run.go (fun _ k => XS.iconst X4.here hx rfl (hb hby d7_27) k) ?_
  show Run p e below s 1 16 (Q_rm7 Z p1 a2 bs h0 n0) (T4.setTop (mkF m 28 #[.val (.int p1), .val (.ref a2), .val (.ref r), .val (.int (0 : Int32)), .val (.int p1), .val (.int (0 : Int32)), .val (.int (0 : Int32)), .val (.ref a2), .val (.int (bs.length.toInt32)), .unset, .unset] [(.int (0 : Int32))]))
  refine Run.go (fun _ k => XS.istore X4.here hx rfl (hb hby d7_28) rfl (l' := #[.val (.int p1), .val (.ref a2), .val (.ref r), .val (.int (0 : Int32)), .val (.int p1), .val (.int (0 : Int32)), .val (.int (0 : Int32)), .val (.ref a2), .val (.int (bs.length.toInt32)), .val (.int (0 : Int32)), .unset]) rfl k) ?_
  show Run p e below s 1 16 (Q_rm7 Z p1 a2 bs h0 n0) (T4.setTop (mkF m 30 #[.val (.int p1), .val (.ref a2), .val (.ref r), .val (.int (0 : Int32)), .val (.int p1), .val (.int (0 : Int32)), .val (.int (0 : Int32)), .val (.ref a2), .val (.int (bs.length.toInt32)), .val (.int (0 : Int32)), .unset] []))
  have LP7 : ∀ (kk : Nat) (j : Int32) (ord : Int32) (gap : Int32) (sh : Int32) (ii : Int32) (sl : Slot) (hsl : One sl) (fr : Nat → Value) (hh8 : Heap) (T8 : State) (L8 : List Loc) (X8 : Stand p l e ({ frames := 1, cells := 1, slots := 16, locals := 18 } : Room) s m #[(.int p1), (.ref a2)] below meth c T8 L8 1 16) (e8 : T8.heap = hh8) (N8 : Fr n0 L8) (Z8 : n0 ≤ hh8.size) (K8 : Keep h0 hh8 []) (fk8_0 : Ary Z hh8 r .int (own_c bs) fr) (fk8_1 : Ary Z hh8 a2 .byte bs.length (fun q => .int (bs.getD q 0))) (hi0 : ¬ ii < 0) (hi : ii.toNatClampNeg ≤ bs.length) (hj0 : ¬ j < 0) (hjl : j.toNatClampNeg ≤ own_c bs) (hR : (own_run bs p1 0 0).drop j.toNatClampNeg = own_run (bs.drop ii.toNatClampNeg) ord gap sh) (hfr : ∀ q, q < j.toNatClampNeg → fr q = .int ((own_run bs p1 0 0).getD q 0)) (hk : bs.length - ii.toNatClampNeg = kk), Run p e below s 1 16 (Q_rm7 Z p1 a2 bs h0 n0) (T8.setTop (mkF m 30 #[.val (.int p1), .val (.ref a2), .val (.ref r), .val (.int j), .val (.int ord), .val (.int gap), .val (.int sh), .val (.ref a2), .val (.int (bs.length.toInt32)), .val (.int ii), sl] [])) := by
    intro kk
    induction kk using Nat.strongRecOn with
    | _ kk ihLP7 =>
      intro j ord gap sh ii sl hsl fr hh8 T8 L8 X8 e8 N8 Z8 K8 fk8_0 fk8_1 hi0 hi hj0 hjl hR hfr hk
      show Run p e below s 1 16 (Q_rm7 Z p1 a2 bs h0 n0) (T8.setTop (mkF m 30 #[.val (.int p1), .val (.ref a2), .val (.ref r), .val (.int j), .val (.int ord), .val (.int gap), .val (.int sh), .val (.ref a2), .val (.int (bs.length.toInt32)), .val (.int ii), sl] []))
      refine Run.go (fun _ k => XS.iload X8.here hx rfl (hb hby d7_30) rfl  k) ?_
      show Run p e below s 1 16 (Q_rm7 Z p1 a2 bs h0 n0) (T8.setTop (mkF m 32 #[.val (.int p1), .val (.ref a2), .val (.ref r), .val (.int j), .val (.int ord), .val (.int gap), .val (.int sh), .val (.ref a2), .val (.int (bs.length.toInt32)), .val (.int ii), sl] [(.int ii)]))
      refine Run.go (fun _ k => XS.iload X8.here hx rfl (hb hby d7_32) rfl  k) ?_
      show Run p e below s 1 16 (Q_rm7 Z p1 a2 bs h0 n0) (T8.setTop (mkF m 34 #[.val (.int p1), .val (.ref a2), .val (.ref r), .val (.int j), .val (.int ord), .val (.int gap), .val (.int sh), .val (.ref a2), .val (.int (bs.length.toInt32)), .val (.int ii), sl] [(.int (bs.length.toInt32)), (.int ii)]))
      by_cases hc9 : (ii < (bs.length.toInt32))
      · refine Run.go (fun _ k => XS.icmpNo X8.here hx rfl (hb hby d7_34) rfl (tlt hc9).2.1 k) ?_
        show Run p e below s 1 16 (Q_rm7 Z p1 a2 bs h0 n0) (T8.setTop (mkF m 37 #[.val (.int p1), .val (.ref a2), .val (.ref r), .val (.int j), .val (.int ord), .val (.int gap), .val (.int sh), .val (.ref a2), .val (.int (bs.length.toInt32)), .val (.int ii), sl] []))
        refine Run.go (fun _ k => XS.aload X8.here hx rfl (hb hby d7_37) rfl rfl k) ?_
        show Run p e below s 1 16 (Q_rm7 Z p1 a2 bs h0 n0) (T8.setTop (mkF m 39 #[.val (.int p1), .val (.ref a2), .val (.ref r), .val (.int j), .val (.int ord), .val (.int gap), .val (.int sh), .val (.ref a2), .val (.int (bs.length.toInt32)), .val (.int ii), sl] [(.ref a2)]))
        refine Run.go (fun _ k => XS.iload X8.here hx rfl (hb hby d7_39) rfl  k) ?_
        show Run p e below s 1 16 (Q_rm7 Z p1 a2 bs h0 n0) (T8.setTop (mkF m 41 #[.val (.int p1), .val (.ref a2), .val (.ref r), .val (.int j), .val (.int ord), .val (.int gap), .val (.int sh), .val (.ref a2), .val (.int (bs.length.toInt32)), .val (.int ii), sl] [(.int ii), (.ref a2)]))
        refine Run.go (fun _ k => ary_bget X8 hx hZ e8 fk8_1 (j := ii) hi0 ((own_ltn hi0 (by omega)).mp hc9) (g := (mkF m 41 #[.val (.int p1), .val (.ref a2), .val (.ref r), .val (.int j), .val (.int ord), .val (.int gap), .val (.int sh), .val (.ref a2), .val (.int (bs.length.toInt32)), .val (.int ii), sl] [(.int ii), (.ref a2)])) rfl rfl (hb hby d7_41) rfl _ k) ?_
        show Run p e below s 1 16 (Q_rm7 Z p1 a2 bs h0 n0) (T8.setTop (mkF m 42 #[.val (.int p1), .val (.ref a2), .val (.ref r), .val (.int j), .val (.int ord), .val (.int gap), .val (.int sh), .val (.ref a2), .val (.int (bs.length.toInt32)), .val (.int ii), sl] [(.int (bs.getD ii.toNatClampNeg 0))]))
        refine Run.go (fun _ k => XS.istoreS X8.here hx rfl (hb hby d7_42) rfl rfl hsl k) ?_
        show Run p e below s 1 16 (Q_rm7 Z p1 a2 bs h0 n0) (T8.setTop (mkF m 44 #[.val (.int p1), .val (.ref a2), .val (.ref r), .val (.int j), .val (.int ord), .val (.int gap), .val (.int sh), .val (.ref a2), .val (.int (bs.length.toInt32)), .val (.int ii), .val (.int (bs.getD ii.toNatClampNeg 0))] []))
        refine Run.go (fun _ k => XS.iload X8.here hx rfl (hb hby d7_44) rfl  k) ?_
        show Run p e below s 1 16 (Q_rm7 Z p1 a2 bs h0 n0) (T8.setTop (mkF m 46 #[.val (.int p1), .val (.ref a2), .val (.ref r), .val (.int j), .val (.int ord), .val (.int gap), .val (.int sh), .val (.ref a2), .val (.int (bs.length.toInt32)), .val (.int ii), .val (.int (bs.getD ii.toNatClampNeg 0))] [(.int gap)]))
        refine Run.go (fun _ k => XS.iload X8.here hx rfl (hb hby d7_46) rfl  k) ?_
        show Run p e below s 1 16 (Q_rm7 Z p1 a2 bs h0 n0) (T8.setTop (mkF m 48 #[.val (.int p1), .val (.ref a2), .val (.ref r), .val (.int j), .val (.int ord), .val (.int gap), .val (.int sh), .val (.ref a2), .val (.int (bs.length.toInt32)), .val (.int ii), .val (.int (bs.getD ii.toNatClampNeg 0))] [(.int (bs.getD ii.toNatClampNeg 0)), (.int gap)]))
        refine Run.go (fun _ k => XS.bipush X8.here hx rfl (hb hby d7_48) k) ?_
        show Run p e below s 1 16 (Q_rm7 Z p1 a2 bs h0 n0) (T8.setTop (mkF m 50 #[.val (.int p1), .val (.ref a2), .val (.ref r), .val (.int j), .val (.int ord), .val (.int gap), .val (.int sh), .val (.ref a2), .val (.int (bs.length.toInt32)), .val (.int ii), .val (.int (bs.getD ii.toNatClampNeg 0))] [(.int (127 : Int32)), (.int (bs.getD ii.toNatClampNeg 0)), (.int gap)]))
        refine Run.go (fun _ k => XS.iand X8.here hx rfl (hb hby d7_50) rfl k) ?_
        show Run p e below s 1 16 (Q_rm7 Z p1 a2 bs h0 n0) (T8.setTop (mkF m 51 #[.val (.int p1), .val (.ref a2), .val (.ref r), .val (.int j), .val (.int ord), .val (.int gap), .val (.int sh), .val (.ref a2), .val (.int (bs.length.toInt32)), .val (.int ii), .val (.int (bs.getD ii.toNatClampNeg 0))] [(.int ((bs.getD ii.toNatClampNeg 0) &&& (127 : Int32))), (.int gap)]))
        refine Run.go (fun _ k => XS.iload X8.here hx rfl (hb hby d7_51) rfl  k) ?_
        show Run p e below s 1 16 (Q_rm7 Z p1 a2 bs h0 n0) (T8.setTop (mkF m 53 #[.val (.int p1), .val (.ref a2), .val (.ref r), .val (.int j), .val (.int ord), .val (.int gap), .val (.int sh), .val (.ref a2), .val (.int (bs.length.toInt32)), .val (.int ii), .val (.int (bs.getD ii.toNatClampNeg 0))] [(.int sh), (.int ((bs.getD ii.toNatClampNeg 0) &&& (127 : Int32))), (.int gap)]))
        refine Run.go (fun _ k => XS.ishl X8.here hx rfl (hb hby d7_53) rfl k) ?_
        show Run p e below s 1 16 (Q_rm7 Z p1 a2 bs h0 n0) (T8.setTop (mkF m 54 #[.val (.int p1), .val (.ref a2), .val (.ref r), .val (.int j), .val (.int ord), .val (.int gap), .val (.int sh), .val (.ref a2), .val (.int (bs.length.toInt32)), .val (.int ii), .val (.int (bs.getD ii.toNatClampNeg 0))] [(.int (((bs.getD ii.toNatClampNeg 0) &&& (127 : Int32)) <<< (sh &&& 31))), (.int gap)]))
        refine Run.go (fun _ k => XS.ior X8.here hx rfl (hb hby d7_54) rfl k) ?_
        show Run p e below s 1 16 (Q_rm7 Z p1 a2 bs h0 n0) (T8.setTop (mkF m 55 #[.val (.int p1), .val (.ref a2), .val (.ref r), .val (.int j), .val (.int ord), .val (.int gap), .val (.int sh), .val (.ref a2), .val (.int (bs.length.toInt32)), .val (.int ii), .val (.int (bs.getD ii.toNatClampNeg 0))] [(.int (gap ||| (((bs.getD ii.toNatClampNeg 0) &&& (127 : Int32)) <<< (sh &&& 31))))]))
        refine Run.go (fun _ k => XS.istore X8.here hx rfl (hb hby d7_55) rfl (l' := #[.val (.int p1), .val (.ref a2), .val (.ref r), .val (.int j), .val (.int ord), .val (.int (gap ||| (((bs.getD ii.toNatClampNeg 0) &&& (127 : Int32)) <<< (sh &&& 31)))), .val (.int sh), .val (.ref a2), .val (.int (bs.length.toInt32)), .val (.int ii), .val (.int (bs.getD ii.toNatClampNeg 0))]) rfl k) ?_
        show Run p e below s 1 16 (Q_rm7 Z p1 a2 bs h0 n0) (T8.setTop (mkF m 57 #[.val (.int p1), .val (.ref a2), .val (.ref r), .val (.int j), .val (.int ord), .val (.int (gap ||| (((bs.getD ii.toNatClampNeg 0) &&& (127 : Int32)) <<< (sh &&& 31)))), .val (.int sh), .val (.ref a2), .val (.int (bs.length.toInt32)), .val (.int ii), .val (.int (bs.getD ii.toNatClampNeg 0))] []))
        refine Run.go (fun _ k => XS.iload X8.here hx rfl (hb hby d7_57) rfl  k) ?_
        show Run p e below s 1 16 (Q_rm7 Z p1 a2 bs h0 n0) (T8.setTop (mkF m 59 #[.val (.int p1), .val (.ref a2), .val (.ref r), .val (.int j), .val (.int ord), .val (.int (gap ||| (((bs.getD ii.toNatClampNeg 0) &&& (127 : Int32)) <<< (sh &&& 31)))), .val (.int sh), .val (.ref a2), .val (.int (bs.length.toInt32)), .val (.int ii), .val (.int (bs.getD ii.toNatClampNeg 0))] [(.int (bs.getD ii.toNatClampNeg 0))]))
        by_cases hc10 : ((bs.getD ii.toNatClampNeg 0) < (0 : Int32))
        · refine Run.go (fun _ k => XS.ifYes X8.here hx rfl (pc0 := 59) (pc' := 86) rfl (hb hby d7_59) rfl ((if0 _ _).trans (tlt hc10).1) (by decide) (by decide) k) ?_
          show Run p e below s 1 16 (Q_rm7 Z p1 a2 bs h0 n0) (T8.setTop (mkF m 86 #[.val (.int p1), .val (.ref a2), .val (.ref r), .val (.int j), .val (.int ord), .val (.int (gap ||| (((bs.getD ii.toNatClampNeg 0) &&& (127 : Int32)) <<< (sh &&& 31)))), .val (.int sh), .val (.ref a2), .val (.int (bs.length.toInt32)), .val (.int ii), .val (.int (bs.getD ii.toNatClampNeg 0))] []))
          refine Run.go (fun _ k => XS.iinc X8.here hx rfl (hb hby d7_86) rfl (l' := #[.val (.int p1), .val (.ref a2), .val (.ref r), .val (.int j), .val (.int ord), .val (.int (gap ||| (((bs.getD ii.toNatClampNeg 0) &&& (127 : Int32)) <<< (sh &&& 31)))), .val (.int (sh + (7 : Int32))), .val (.ref a2), .val (.int (bs.length.toInt32)), .val (.int ii), .val (.int (bs.getD ii.toNatClampNeg 0))]) rfl k) ?_
          show Run p e below s 1 16 (Q_rm7 Z p1 a2 bs h0 n0) (T8.setTop (mkF m 89 #[.val (.int p1), .val (.ref a2), .val (.ref r), .val (.int j), .val (.int ord), .val (.int (gap ||| (((bs.getD ii.toNatClampNeg 0) &&& (127 : Int32)) <<< (sh &&& 31)))), .val (.int (sh + (7 : Int32))), .val (.ref a2), .val (.int (bs.length.toInt32)), .val (.int ii), .val (.int (bs.getD ii.toNatClampNeg 0))] []))
          refine Run.go (fun _ k => XS.iinc X8.here hx rfl (hb hby d7_89) rfl (l' := #[.val (.int p1), .val (.ref a2), .val (.ref r), .val (.int j), .val (.int ord), .val (.int (gap ||| (((bs.getD ii.toNatClampNeg 0) &&& (127 : Int32)) <<< (sh &&& 31)))), .val (.int (sh + (7 : Int32))), .val (.ref a2), .val (.int (bs.length.toInt32)), .val (.int (ii + (1 : Int32))), .val (.int (bs.getD ii.toNatClampNeg 0))]) rfl k) ?_
          show Run p e below s 1 16 (Q_rm7 Z p1 a2 bs h0 n0) (T8.setTop (mkF m 92 #[.val (.int p1), .val (.ref a2), .val (.ref r), .val (.int j), .val (.int ord), .val (.int (gap ||| (((bs.getD ii.toNatClampNeg 0) &&& (127 : Int32)) <<< (sh &&& 31)))), .val (.int (sh + (7 : Int32))), .val (.ref a2), .val (.int (bs.length.toInt32)), .val (.int (ii + (1 : Int32))), .val (.int (bs.getD ii.toNatClampNeg 0))] []))
          refine Run.go (fun _ k => XS.goto X8.here hx rfl (pc0 := 92) (pc' := 30) rfl (hb hby d7_92) (by decide) (by decide) k) ?_
          show Run p e below s 1 16 (Q_rm7 Z p1 a2 bs h0 n0) (T8.setTop (mkF m 30 #[.val (.int p1), .val (.ref a2), .val (.ref r), .val (.int j), .val (.int ord), .val (.int (gap ||| (((bs.getD ii.toNatClampNeg 0) &&& (127 : Int32)) <<< (sh &&& 31)))), .val (.int (sh + (7 : Int32))), .val (.ref a2), .val (.int (bs.length.toInt32)), .val (.int (ii + (1 : Int32))), .val (.int (bs.getD ii.toNatClampNeg 0))] []))
          exact ihLP7 (bs.length - (ii + (1 : Int32)).toNatClampNeg) (by rw [← hk, (own_succ hi0 (by omega) ((own_ltn hi0 (by omega)).mp hc9)).1]; have := ((own_ltn hi0 (by omega)).mp hc9); omega) j ord (gap ||| (((bs.getD ii.toNatClampNeg 0) &&& (127 : Int32)) <<< (sh &&& 31))) (sh + (7 : Int32)) (ii + (1 : Int32)) _ (One.val rfl) fr hh8 _ _ X8 e8 N8 Z8 K8 fk8_0 fk8_1 (own_succ hi0 (by omega) ((own_ltn hi0 (by omega)).mp hc9)).2 (by rw [(own_succ hi0 (by omega) ((own_ltn hi0 (by omega)).mp hc9)).1]; exact ((own_ltn hi0 (by omega)).mp hc9)) hj0 hjl (by rw [(own_succ hi0 (by omega) ((own_ltn hi0 (by omega)).mp hc9)).1]; exact own_stn bs _ _ _ _ _ _ ((own_ltn hi0 (by omega)).mp hc9) hR hc10) hfr rfl
        · refine Run.go (fun _ k => XS.ifNo X8.here hx rfl (hb hby d7_59) rfl ((if0 _ _).trans (flt hc10).1) k) ?_
          show Run p e below s 1 16 (Q_rm7 Z p1 a2 bs h0 n0) (T8.setTop (mkF m 62 #[.val (.int p1), .val (.ref a2), .val (.ref r), .val (.int j), .val (.int ord), .val (.int (gap ||| (((bs.getD ii.toNatClampNeg 0) &&& (127 : Int32)) <<< (sh &&& 31)))), .val (.int sh), .val (.ref a2), .val (.int (bs.length.toInt32)), .val (.int ii), .val (.int (bs.getD ii.toNatClampNeg 0))] []))
          refine Run.go (fun _ k => XS.iload X8.here hx rfl (hb hby d7_62) rfl  k) ?_
          show Run p e below s 1 16 (Q_rm7 Z p1 a2 bs h0 n0) (T8.setTop (mkF m 64 #[.val (.int p1), .val (.ref a2), .val (.ref r), .val (.int j), .val (.int ord), .val (.int (gap ||| (((bs.getD ii.toNatClampNeg 0) &&& (127 : Int32)) <<< (sh &&& 31)))), .val (.int sh), .val (.ref a2), .val (.int (bs.length.toInt32)), .val (.int ii), .val (.int (bs.getD ii.toNatClampNeg 0))] [(.int ord)]))
          refine Run.go (fun _ k => XS.iload X8.here hx rfl (hb hby d7_64) rfl  k) ?_
          show Run p e below s 1 16 (Q_rm7 Z p1 a2 bs h0 n0) (T8.setTop (mkF m 66 #[.val (.int p1), .val (.ref a2), .val (.ref r), .val (.int j), .val (.int ord), .val (.int (gap ||| (((bs.getD ii.toNatClampNeg 0) &&& (127 : Int32)) <<< (sh &&& 31)))), .val (.int sh), .val (.ref a2), .val (.int (bs.length.toInt32)), .val (.int ii), .val (.int (bs.getD ii.toNatClampNeg 0))] [(.int (gap ||| (((bs.getD ii.toNatClampNeg 0) &&& (127 : Int32)) <<< (sh &&& 31)))), (.int ord)]))
          refine Run.go (fun _ k => XS.iadd X8.here hx rfl (hb hby d7_66) rfl k) ?_
          show Run p e below s 1 16 (Q_rm7 Z p1 a2 bs h0 n0) (T8.setTop (mkF m 67 #[.val (.int p1), .val (.ref a2), .val (.ref r), .val (.int j), .val (.int ord), .val (.int (gap ||| (((bs.getD ii.toNatClampNeg 0) &&& (127 : Int32)) <<< (sh &&& 31)))), .val (.int sh), .val (.ref a2), .val (.int (bs.length.toInt32)), .val (.int ii), .val (.int (bs.getD ii.toNatClampNeg 0))] [(.int (ord + (gap ||| (((bs.getD ii.toNatClampNeg 0) &&& (127 : Int32)) <<< (sh &&& 31)))))]))
          refine Run.go (fun _ k => XS.istore X8.here hx rfl (hb hby d7_67) rfl (l' := #[.val (.int p1), .val (.ref a2), .val (.ref r), .val (.int j), .val (.int (ord + (gap ||| (((bs.getD ii.toNatClampNeg 0) &&& (127 : Int32)) <<< (sh &&& 31))))), .val (.int (gap ||| (((bs.getD ii.toNatClampNeg 0) &&& (127 : Int32)) <<< (sh &&& 31)))), .val (.int sh), .val (.ref a2), .val (.int (bs.length.toInt32)), .val (.int ii), .val (.int (bs.getD ii.toNatClampNeg 0))]) rfl k) ?_
          show Run p e below s 1 16 (Q_rm7 Z p1 a2 bs h0 n0) (T8.setTop (mkF m 69 #[.val (.int p1), .val (.ref a2), .val (.ref r), .val (.int j), .val (.int (ord + (gap ||| (((bs.getD ii.toNatClampNeg 0) &&& (127 : Int32)) <<< (sh &&& 31))))), .val (.int (gap ||| (((bs.getD ii.toNatClampNeg 0) &&& (127 : Int32)) <<< (sh &&& 31)))), .val (.int sh), .val (.ref a2), .val (.int (bs.length.toInt32)), .val (.int ii), .val (.int (bs.getD ii.toNatClampNeg 0))] []))
          refine Run.go (fun _ k => XS.aloadN X8.here hx rfl (hb hby d7_69) rfl rfl k) ?_
          show Run p e below s 1 16 (Q_rm7 Z p1 a2 bs h0 n0) (T8.setTop (mkF m 70 #[.val (.int p1), .val (.ref a2), .val (.ref r), .val (.int j), .val (.int (ord + (gap ||| (((bs.getD ii.toNatClampNeg 0) &&& (127 : Int32)) <<< (sh &&& 31))))), .val (.int (gap ||| (((bs.getD ii.toNatClampNeg 0) &&& (127 : Int32)) <<< (sh &&& 31)))), .val (.int sh), .val (.ref a2), .val (.int (bs.length.toInt32)), .val (.int ii), .val (.int (bs.getD ii.toNatClampNeg 0))] [(.ref r)]))
          refine Run.go (fun _ k => XS.iloadN X8.here hx rfl (hb hby d7_70) rfl  k) ?_
          show Run p e below s 1 16 (Q_rm7 Z p1 a2 bs h0 n0) (T8.setTop (mkF m 71 #[.val (.int p1), .val (.ref a2), .val (.ref r), .val (.int j), .val (.int (ord + (gap ||| (((bs.getD ii.toNatClampNeg 0) &&& (127 : Int32)) <<< (sh &&& 31))))), .val (.int (gap ||| (((bs.getD ii.toNatClampNeg 0) &&& (127 : Int32)) <<< (sh &&& 31)))), .val (.int sh), .val (.ref a2), .val (.int (bs.length.toInt32)), .val (.int ii), .val (.int (bs.getD ii.toNatClampNeg 0))] [(.int j), (.ref r)]))
          refine Run.go (fun _ k => XS.iload X8.here hx rfl (hb hby d7_71) rfl  k) ?_
          show Run p e below s 1 16 (Q_rm7 Z p1 a2 bs h0 n0) (T8.setTop (mkF m 73 #[.val (.int p1), .val (.ref a2), .val (.ref r), .val (.int j), .val (.int (ord + (gap ||| (((bs.getD ii.toNatClampNeg 0) &&& (127 : Int32)) <<< (sh &&& 31))))), .val (.int (gap ||| (((bs.getD ii.toNatClampNeg 0) &&& (127 : Int32)) <<< (sh &&& 31)))), .val (.int sh), .val (.ref a2), .val (.int (bs.length.toInt32)), .val (.int ii), .val (.int (bs.getD ii.toNatClampNeg 0))] [(.int (ord + (gap ||| (((bs.getD ii.toNatClampNeg 0) &&& (127 : Int32)) <<< (sh &&& 31))))), (.int j), (.ref r)]))
          obtain ⟨T11, h11, X11, e11, W11, st11⟩ := ary_iset X8 hx hZ e8 fk8_0 (j := j) hj0 (own_stp bs p1 _ _ _ _ _ ((own_ltn hi0 (by omega)).mp hc9) hR hc10).1 (g := (mkF m 73 #[.val (.int p1), .val (.ref a2), .val (.ref r), .val (.int j), .val (.int (ord + (gap ||| (((bs.getD ii.toNatClampNeg 0) &&& (127 : Int32)) <<< (sh &&& 31))))), .val (.int (gap ||| (((bs.getD ii.toNatClampNeg 0) &&& (127 : Int32)) <<< (sh &&& 31)))), .val (.int sh), .val (.ref a2), .val (.int (bs.length.toInt32)), .val (.int ii), .val (.int (bs.getD ii.toNatClampNeg 0))] [(.int (ord + (gap ||| (((bs.getD ii.toNatClampNeg 0) &&& (127 : Int32)) <<< (sh &&& 31))))), (.int j), (.ref r)])) rfl rfl (hb hby d7_73)
          have N11 := Fr.snoc X11 N8 g_r
          have Z11 : n0 ≤ h11.size := Nat.le_trans Z8 (Keep.of_wr W11).1
          have K11 : Keep h0 h11 [] := K8.wr W11 (Or.inr sz_r)
          obtain ⟨Lg11, Xg11, Ng11⟩ := Stand_gen X11 N11
          have fx12 : Ary Z h11 r .int (own_c bs) (fun i => if i = j.toNatClampNeg then (.int (ord + (gap ||| (((bs.getD ii.toNatClampNeg 0) &&& (127 : Int32)) <<< (sh &&& 31))))) else fr i) := fk8_0.same W11
          refine Run.go st11 ?_
          show Run p e below s 1 16 (Q_rm7 Z p1 a2 bs h0 n0) (T11.setTop (mkF m 74 #[.val (.int p1), .val (.ref a2), .val (.ref r), .val (.int j), .val (.int (ord + (gap ||| (((bs.getD ii.toNatClampNeg 0) &&& (127 : Int32)) <<< (sh &&& 31))))), .val (.int (gap ||| (((bs.getD ii.toNatClampNeg 0) &&& (127 : Int32)) <<< (sh &&& 31)))), .val (.int sh), .val (.ref a2), .val (.int (bs.length.toInt32)), .val (.int ii), .val (.int (bs.getD ii.toNatClampNeg 0))] []))
          refine Run.go (fun _ k => XS.iinc Xg11.here hx rfl (hb hby d7_74) rfl (l' := #[.val (.int p1), .val (.ref a2), .val (.ref r), .val (.int (j + (1 : Int32))), .val (.int (ord + (gap ||| (((bs.getD ii.toNatClampNeg 0) &&& (127 : Int32)) <<< (sh &&& 31))))), .val (.int (gap ||| (((bs.getD ii.toNatClampNeg 0) &&& (127 : Int32)) <<< (sh &&& 31)))), .val (.int sh), .val (.ref a2), .val (.int (bs.length.toInt32)), .val (.int ii), .val (.int (bs.getD ii.toNatClampNeg 0))]) rfl k) ?_
          show Run p e below s 1 16 (Q_rm7 Z p1 a2 bs h0 n0) (T11.setTop (mkF m 77 #[.val (.int p1), .val (.ref a2), .val (.ref r), .val (.int (j + (1 : Int32))), .val (.int (ord + (gap ||| (((bs.getD ii.toNatClampNeg 0) &&& (127 : Int32)) <<< (sh &&& 31))))), .val (.int (gap ||| (((bs.getD ii.toNatClampNeg 0) &&& (127 : Int32)) <<< (sh &&& 31)))), .val (.int sh), .val (.ref a2), .val (.int (bs.length.toInt32)), .val (.int ii), .val (.int (bs.getD ii.toNatClampNeg 0))] []))
          refine Run.go (fun _ k => XS.iconst Xg11.here hx rfl (hb hby d7_77) k) ?_
          show Run p e below s 1 16 (Q_rm7 Z p1 a2 bs h0 n0) (T11.setTop (mkF m 78 #[.val (.int p1), .val (.ref a2), .val (.ref r), .val (.int (j + (1 : Int32))), .val (.int (ord + (gap ||| (((bs.getD ii.toNatClampNeg 0) &&& (127 : Int32)) <<< (sh &&& 31))))), .val (.int (gap ||| (((bs.getD ii.toNatClampNeg 0) &&& (127 : Int32)) <<< (sh &&& 31)))), .val (.int sh), .val (.ref a2), .val (.int (bs.length.toInt32)), .val (.int ii), .val (.int (bs.getD ii.toNatClampNeg 0))] [(.int (0 : Int32))]))
          refine Run.go (fun _ k => XS.istore Xg11.here hx rfl (hb hby d7_78) rfl (l' := #[.val (.int p1), .val (.ref a2), .val (.ref r), .val (.int (j + (1 : Int32))), .val (.int (ord + (gap ||| (((bs.getD ii.toNatClampNeg 0) &&& (127 : Int32)) <<< (sh &&& 31))))), .val (.int (0 : Int32)), .val (.int sh), .val (.ref a2), .val (.int (bs.length.toInt32)), .val (.int ii), .val (.int (bs.getD ii.toNatClampNeg 0))]) rfl k) ?_
          show Run p e below s 1 16 (Q_rm7 Z p1 a2 bs h0 n0) (T11.setTop (mkF m 80 #[.val (.int p1), .val (.ref a2), .val (.ref r), .val (.int (j + (1 : Int32))), .val (.int (ord + (gap ||| (((bs.getD ii.toNatClampNeg 0) &&& (127 : Int32)) <<< (sh &&& 31))))), .val (.int (0 : Int32)), .val (.int sh), .val (.ref a2), .val (.int (bs.length.toInt32)), .val (.int ii), .val (.int (bs.getD ii.toNatClampNeg 0))] []))
          refine Run.go (fun _ k => XS.iconst Xg11.here hx rfl (hb hby d7_80) k) ?_
          show Run p e below s 1 16 (Q_rm7 Z p1 a2 bs h0 n0) (T11.setTop (mkF m 81 #[.val (.int p1), .val (.ref a2), .val (.ref r), .val (.int (j + (1 : Int32))), .val (.int (ord + (gap ||| (((bs.getD ii.toNatClampNeg 0) &&& (127 : Int32)) <<< (sh &&& 31))))), .val (.int (0 : Int32)), .val (.int sh), .val (.ref a2), .val (.int (bs.length.toInt32)), .val (.int ii), .val (.int (bs.getD ii.toNatClampNeg 0))] [(.int (0 : Int32))]))
          refine Run.go (fun _ k => XS.istore Xg11.here hx rfl (hb hby d7_81) rfl (l' := #[.val (.int p1), .val (.ref a2), .val (.ref r), .val (.int (j + (1 : Int32))), .val (.int (ord + (gap ||| (((bs.getD ii.toNatClampNeg 0) &&& (127 : Int32)) <<< (sh &&& 31))))), .val (.int (0 : Int32)), .val (.int (0 : Int32)), .val (.ref a2), .val (.int (bs.length.toInt32)), .val (.int ii), .val (.int (bs.getD ii.toNatClampNeg 0))]) rfl k) ?_
          show Run p e below s 1 16 (Q_rm7 Z p1 a2 bs h0 n0) (T11.setTop (mkF m 83 #[.val (.int p1), .val (.ref a2), .val (.ref r), .val (.int (j + (1 : Int32))), .val (.int (ord + (gap ||| (((bs.getD ii.toNatClampNeg 0) &&& (127 : Int32)) <<< (sh &&& 31))))), .val (.int (0 : Int32)), .val (.int (0 : Int32)), .val (.ref a2), .val (.int (bs.length.toInt32)), .val (.int ii), .val (.int (bs.getD ii.toNatClampNeg 0))] []))
          refine Run.go (fun _ k => XS.goto Xg11.here hx rfl (pc0 := 83) (pc' := 89) rfl (hb hby d7_83) (by decide) (by decide) k) ?_
          show Run p e below s 1 16 (Q_rm7 Z p1 a2 bs h0 n0) (T11.setTop (mkF m 89 #[.val (.int p1), .val (.ref a2), .val (.ref r), .val (.int (j + (1 : Int32))), .val (.int (ord + (gap ||| (((bs.getD ii.toNatClampNeg 0) &&& (127 : Int32)) <<< (sh &&& 31))))), .val (.int (0 : Int32)), .val (.int (0 : Int32)), .val (.ref a2), .val (.int (bs.length.toInt32)), .val (.int ii), .val (.int (bs.getD ii.toNatClampNeg 0))] []))
          refine Run.go (fun _ k => XS.iinc Xg11.here hx rfl (hb hby d7_89) rfl (l' := #[.val (.int p1), .val (.ref a2), .val (.ref r), .val (.int (j + (1 : Int32))), .val (.int (ord + (gap ||| (((bs.getD ii.toNatClampNeg 0) &&& (127 : Int32)) <<< (sh &&& 31))))), .val (.int (0 : Int32)), .val (.int (0 : Int32)), .val (.ref a2), .val (.int (bs.length.toInt32)), .val (.int (ii + (1 : Int32))), .val (.int (bs.getD ii.toNatClampNeg 0))]) rfl k) ?_
          show Run p e below s 1 16 (Q_rm7 Z p1 a2 bs h0 n0) (T11.setTop (mkF m 92 #[.val (.int p1), .val (.ref a2), .val (.ref r), .val (.int (j + (1 : Int32))), .val (.int (ord + (gap ||| (((bs.getD ii.toNatClampNeg 0) &&& (127 : Int32)) <<< (sh &&& 31))))), .val (.int (0 : Int32)), .val (.int (0 : Int32)), .val (.ref a2), .val (.int (bs.length.toInt32)), .val (.int (ii + (1 : Int32))), .val (.int (bs.getD ii.toNatClampNeg 0))] []))
          refine Run.go (fun _ k => XS.goto Xg11.here hx rfl (pc0 := 92) (pc' := 30) rfl (hb hby d7_92) (by decide) (by decide) k) ?_
          show Run p e below s 1 16 (Q_rm7 Z p1 a2 bs h0 n0) (T11.setTop (mkF m 30 #[.val (.int p1), .val (.ref a2), .val (.ref r), .val (.int (j + (1 : Int32))), .val (.int (ord + (gap ||| (((bs.getD ii.toNatClampNeg 0) &&& (127 : Int32)) <<< (sh &&& 31))))), .val (.int (0 : Int32)), .val (.int (0 : Int32)), .val (.ref a2), .val (.int (bs.length.toInt32)), .val (.int (ii + (1 : Int32))), .val (.int (bs.getD ii.toNatClampNeg 0))] []))
          have fx13 := (fk8_1.other W11 ne_a2_r)
          exact ihLP7 (bs.length - (ii + (1 : Int32)).toNatClampNeg) (by rw [← hk, (own_succ hi0 (by omega) ((own_ltn hi0 (by omega)).mp hc9)).1]; have := ((own_ltn hi0 (by omega)).mp hc9); omega) (j + (1 : Int32)) (ord + (gap ||| (((bs.getD ii.toNatClampNeg 0) &&& (127 : Int32)) <<< (sh &&& 31)))) (0 : Int32) (0 : Int32) (ii + (1 : Int32)) _ (One.val rfl) (fun i => if i = j.toNatClampNeg then (.int (ord + (gap ||| (((bs.getD ii.toNatClampNeg 0) &&& (127 : Int32)) <<< (sh &&& 31))))) else fr i) h11 _ _ Xg11 e11 Ng11 Z11 K11 fx12 fx13 (own_succ hi0 (by omega) ((own_ltn hi0 (by omega)).mp hc9)).2 (by rw [(own_succ hi0 (by omega) ((own_ltn hi0 (by omega)).mp hc9)).1]; exact ((own_ltn hi0 (by omega)).mp hc9)) (own_succ hj0 hc31 (own_stp bs p1 _ _ _ _ _ ((own_ltn hi0 (by omega)).mp hc9) hR hc10).1).2 (by rw [(own_succ hj0 hc31 (own_stp bs p1 _ _ _ _ _ ((own_ltn hi0 (by omega)).mp hc9) hR hc10).1).1]; exact (own_stp bs p1 _ _ _ _ _ ((own_ltn hi0 (by omega)).mp hc9) hR hc10).1) (by rw [(own_succ hj0 hc31 (own_stp bs p1 _ _ _ _ _ ((own_ltn hi0 (by omega)).mp hc9) hR hc10).1).1, (own_succ hi0 (by omega) ((own_ltn hi0 (by omega)).mp hc9)).1]; exact (own_stp bs p1 _ _ _ _ _ ((own_ltn hi0 (by omega)).mp hc9) hR hc10).2.2) (by rw [(own_succ hj0 hc31 (own_stp bs p1 _ _ _ _ _ ((own_ltn hi0 (by omega)).mp hc9) hR hc10).1).1]; exact own_frS _ _ _ _ hfr (own_stp bs p1 _ _ _ _ _ ((own_ltn hi0 (by omega)).mp hc9) hR hc10).2.1) rfl
      · refine Run.go (fun _ k => XS.icmpYes X8.here hx rfl (pc0 := 34) (pc' := 95) rfl (hb hby d7_34) rfl (flt hc9).2.1 (by decide) (by decide) k) ?_
        show Run p e below s 1 16 (Q_rm7 Z p1 a2 bs h0 n0) (T8.setTop (mkF m 95 #[.val (.int p1), .val (.ref a2), .val (.ref r), .val (.int j), .val (.int ord), .val (.int gap), .val (.int sh), .val (.ref a2), .val (.int (bs.length.toInt32)), .val (.int ii), sl] []))
        refine Run.go (fun _ k => XS.aloadN X8.here hx rfl (hb hby d7_95) rfl rfl k) ?_
        show Run p e below s 1 16 (Q_rm7 Z p1 a2 bs h0 n0) (T8.setTop (mkF m 96 #[.val (.int p1), .val (.ref a2), .val (.ref r), .val (.int j), .val (.int ord), .val (.int gap), .val (.int sh), .val (.ref a2), .val (.int (bs.length.toInt32)), .val (.int ii), sl] [(.ref r)]))
        refine Run.retA X8 hx rfl Bd.returns rfl Bd.notSynchronized (hb hby d7_96) (by decide) (by decide) ?_
        show Q_rm7 Z p1 a2 bs h0 n0 _ T8.heap _
        rw [e8]
        have hend := own_end bs p1 _ _ _ _ _ (Nat.le_of_not_lt (mt (own_ltn hi0 (by omega)).mpr hc9)) hR
        refine ⟨_, rfl, N8, K8, sz_r, ?_⟩
        rw [own_clen]
        exact Ary.congr fk8_0 (fun q hq => hfr q (Nat.lt_of_lt_of_le hq hend))
  exact LP7 (bs.length - (0 : Int32).toNatClampNeg) (0 : Int32) p1 (0 : Int32) (0 : Int32) (0 : Int32) _ One.u (fun _ => (.int (0 : Int32))) h4 _ _ X4 e4 Ng3 Z4 K4 fx5 fx6 (by decide) (Nat.zero_le _) (by decide) (Nat.zero_le _) rfl (fun q hq => absurd hq (Nat.not_lt_zero q)) rfl
theorem own_m0 (p : Int32) : ¬ (p &&& (2147483647 : Int32)) < 0 := by
  have h := (c_and p 2147483647 (by decide)).1
  have e0 : (0 : Int32).toInt = 0 := rfl
  rw [Int32.lt_iff_toInt_lt]; omega
theorem own_mx (a b : Int32) (h : ¬ a < 0) : ¬ F_rm1 a b < a ∧ ¬ F_rm1 a b < 0 := by
  unfold F_rm1
  have e0 : (0 : Int32).toInt = 0 := rfl
  split <;> simp only [Int32.lt_iff_toInt_lt] at * <;> omega
theorem own_sb (a b : Int32) (h : ¬ a < 0) (q : ¬ b < a) : ¬ (b - a) < 0 ∧ (b - a).toInt < 128 ^ (4 + 1) := by
  have e0 : (0 : Int32).toInt = 0 := rfl
  have s := c_isub b a
  have := rng32 a
  have := rng32 b
  have := rng32 (b - a)
  simp only [Int32.lt_iff_toInt_lt] at *
  refine ⟨by omega, ?_⟩
  show _ < (34359738368 : Int); omega
theorem own_k3 (p : Int32) : (p &&& (3 : Int32)) = 0 ∨ (p &&& (3 : Int32)) = 1 ∨ (p &&& (3 : Int32)) = 2 ∨ (p &&& (3 : Int32)) = 3 := by
  have h := c_and p 3 (by decide)
  have e0 : (0 : Int32).toInt = 0 := rfl
  have e1 : (1 : Int32).toInt = 1 := rfl
  have e2 : (2 : Int32).toInt = 2 := rfl
  have e3 : (3 : Int32).toInt = 3 := rfl
  simp only [← Int32.toInt_inj, e0, e1, e2, e3] at *
  omega
theorem own_R0 (a : Int32) : own_run ([] : List Int32) a 0 0 = [] := rfl
theorem own_R1 (a b : Int32) (ha : ¬ a < 0) (h1 : ¬ b < a) : own_run (([] : List Int32) ++ own_enc 4 (b - a)) a 0 0 = [b] := by
  have q := own_dec1 a b [] ha h1
  rw [List.append_nil] at q
  rw [List.nil_append, q]; rfl
theorem own_R2 (a b c : Int32) (ha : ¬ a < 0) (h1 : ¬ b < a) (hb : ¬ b < 0) (h2 : ¬ c < b) : own_run (([] : List Int32) ++ own_enc 4 (b - a) ++ own_enc 4 (c - b)) a 0 0 = [b, c] := by
  have q := own_R1 b c hb h2
  rw [List.nil_append] at q
  rw [List.nil_append, own_dec1 a b _ ha h1, q]
theorem own_R3 (a b c d : Int32) (ha : ¬ a < 0) (h1 : ¬ b < a) (hb : ¬ b < 0) (h2 : ¬ c < b) (hc : ¬ c < 0) (h3 : ¬ d < c) : own_run (([] : List Int32) ++ own_enc 4 (b - a) ++ own_enc 4 (c - b) ++ own_enc 4 (d - c)) a 0 0 = [b, c, d] := by
  have q := own_R2 b c d hb h2 hc h3
  rw [List.nil_append] at q
  rw [List.nil_append, List.append_assoc, own_dec1 a b _ ha h1, q]
theorem own_L (k : Nat) (g : Int32) (bs : List Int32) (h : bs.length ≤ k) : (bs ++ own_enc 4 g).length ≤ k + 5 := by
  rw [List.length_append]; have := own_enclen 4 g; omega
theorem pd_4 : parseMethodDescriptor "(I)V" = some ⟨[.int], none⟩ := by decide +kernel
theorem pd_5 : parseMethodDescriptor "()[B" = some ⟨[], some (.array .byte)⟩ := by decide +kernel
theorem pd_6 : parseMethodDescriptor "(I[B)[I" = some ⟨[.int, (.array .byte)], some (.array .int)⟩ := by decide +kernel
theorem pd_7 : parseMethodDescriptor "(I)I" = some ⟨[.int], some .int⟩ := by decide +kernel
def Q_rm0 (Z : State) (p1 : Int32) (p2 : Int32) (p3 : Int32) (p4 : Int32) (p5 : Int32) (h0 : Heap) (n0 : Nat) (v : Option Value) (h : Heap) (L : List Loc) : Prop := v = some (.int 1) ∧ Fr n0 L
theorem ef_rm0 (m : MethodId) (x0 : Int32) (x1 : Int32) (x2 : Int32) (x3 : Int32) (x4 : Int32) : entryFrame m #[(.int x0), (.int x1), (.int x2), (.int x3), (.int x4)] maxLocals = mkF m 0 #[.val (.int x0), .val (.int x1), .val (.int x2), .val (.int x3), .val (.int x4), .unset, .unset, .unset, .unset, .unset, .unset, .unset] [] := by first | (simp [entryFrame, mkF, argsToLocals, Value.category, maxLocals]; done) | rfl
theorem pn_2 : plainName "com/example/subjectory/subjectory/index/PostingsOrdinalsPinLaw" = true := by first | (simp [plainName, overriddenIn]; done) | decide +kernel
set_option maxRecDepth 65536 in
set_option maxHeartbeats 40000000 in
theorem rm0 (l : Launch) (Z : State) (a0 : Array Value) (hw : ∀ d ∈ tables_1, d.before a0 Z = true) (ws : List Jvm.Cond) (p1 : Int32) (p2 : Int32) (p3 : Int32) (p4 : Int32) (p5 : Int32) (h0 : Heap) (n0 : Nat) (Z0 : n0 ≤ h0.size)  :
    MetFree l x (head1 (Jvm.Cond.code x code maxLocals ret :: ws) room_1) (fun a U => a = #[(.int p1), (.int p2), (.int p3), (.int p4), (.int p5)] ∧ Z.Warmed39 U.vm ∧ U.heap = h0) (fun _ _ _ _ _ => True) (fun _ U o U' => ∃ v L, o = .returned v ∧ Q_rm0 Z p1 p2 p3 p4 p5 h0 n0 v U'.heap L ∧ FrameEnd U o U' L 10 136) := by
  refine MetFree.of_bodySF (plainFor_of_name pn_2) hisR ?_
  intro p e s m args below meth c s₁ Bd hml0 hP hK
  obtain ⟨rfl, hZ, hh⟩ := hP
  have hx := Bd.exec
  have hby := Bd.bytes
  have hml : c.maxLocals = 12 := hml0
  have hown : s.vm.findClass "com/example/subjectory/subjectory/index/PostingsOrdinalsPinLaw" = some m.cls := findClass_of_methodNamed Bd.named
  have hnm := (name_of_methodNamed Bd.named Bd.method).1
  have X0 : Stand p l e room_1 s m #[(.int p1), (.int p2), (.int p3), (.int p4), (.int p5)] below meth c s₁ [] 0 0 := Stand.of_body Bd
  have e0 : s₁.heap = h0 := by rw [← hh, Bd.state]; rfl
  have N0 := Fr.nil n0
  show Run p e below s 10 136 (Q_rm0 Z p1 p2 p3 p4 p5 h0 n0) (s₁.setTop (entryFrame m #[(.int p1), (.int p2), (.int p3), (.int p4), (.int p5)] maxLocals))
  refine Run.go (fun _ k => castTop (ef_rm0 m p1 p2 p3 p4 p5) k) ?_
  show Run p e below s 10 136 (Q_rm0 Z p1 p2 p3 p4 p5 h0 n0) (s₁.setTop (mkF m 0 #[.val (.int p1), .val (.int p2), .val (.int p3), .val (.int p4), .val (.int p5), .unset, .unset, .unset, .unset, .unset, .unset, .unset] []))
  refine Run.go (fun _ k => XS.iloadN X0.here hx rfl (hb hby at_0) rfl  k) ?_
  show Run p e below s 10 136 (Q_rm0 Z p1 p2 p3 p4 p5 h0 n0) (s₁.setTop (mkF m 1 #[.val (.int p1), .val (.int p2), .val (.int p3), .val (.int p4), .val (.int p5), .unset, .unset, .unset, .unset, .unset, .unset, .unset] [(.int p1)]))
  refine Run.go (fun _ k => X0.ldcInt hx hown (mvT hZ (hw _ (List.mem_of_getElem? (i := 0) rfl))) (g := (mkF m 1 #[.val (.int p1), .val (.int p2), .val (.int p3), .val (.int p4), .val (.int p5), .unset, .unset, .unset, .unset, .unset, .unset, .unset] [(.int p1)])) rfl (hb hby at_1) _ k) ?_
  show Run p e below s 10 136 (Q_rm0 Z p1 p2 p3 p4 p5 h0 n0) (s₁.setTop (mkF m 3 #[.val (.int p1), .val (.int p2), .val (.int p3), .val (.int p4), .val (.int p5), .unset, .unset, .unset, .unset, .unset, .unset, .unset] [(.int (2147483647 : Int32)), (.int p1)]))
  refine Run.go (fun _ k => XS.iand X0.here hx rfl (hb hby at_3) rfl k) ?_
  show Run p e below s 10 136 (Q_rm0 Z p1 p2 p3 p4 p5 h0 n0) (s₁.setTop (mkF m 4 #[.val (.int p1), .val (.int p2), .val (.int p3), .val (.int p4), .val (.int p5), .unset, .unset, .unset, .unset, .unset, .unset, .unset] [(.int (p1 &&& (2147483647 : Int32)))]))
  refine Run.go (fun _ k => XS.istore X0.here hx rfl (hb hby at_4) rfl (l' := #[.val (.int p1), .val (.int p2), .val (.int p3), .val (.int p4), .val (.int p5), .val (.int (p1 &&& (2147483647 : Int32))), .unset, .unset, .unset, .unset, .unset, .unset]) rfl k) ?_
  show Run p e below s 10 136 (Q_rm0 Z p1 p2 p3 p4 p5 h0 n0) (s₁.setTop (mkF m 6 #[.val (.int p1), .val (.int p2), .val (.int p3), .val (.int p4), .val (.int p5), .val (.int (p1 &&& (2147483647 : Int32))), .unset, .unset, .unset, .unset, .unset, .unset] []))
  obtain ⟨z6, hz6⟩ : ∃ z, z = (p1 &&& (2147483647 : Int32)) := ⟨_, rfl⟩
  rw [← hz6]
  show Run p e below s 10 136 (Q_rm0 Z p1 p2 p3 p4 p5 h0 n0) (s₁.setTop (mkF m 6 #[.val (.int p1), .val (.int p2), .val (.int p3), .val (.int p4), .val (.int p5), .val (.int z6), .unset, .unset, .unset, .unset, .unset, .unset] []))
  refine Run.go (fun _ k => XS.iload X0.here hx rfl (hb hby at_6) rfl  k) ?_
  show Run p e below s 10 136 (Q_rm0 Z p1 p2 p3 p4 p5 h0 n0) (s₁.setTop (mkF m 8 #[.val (.int p1), .val (.int p2), .val (.int p3), .val (.int p4), .val (.int p5), .val (.int z6), .unset, .unset, .unset, .unset, .unset, .unset] [(.int z6)]))
  refine Run.go (fun _ k => XS.iloadN X0.here hx rfl (hb hby at_8) rfl  k) ?_
  show Run p e below s 10 136 (Q_rm0 Z p1 p2 p3 p4 p5 h0 n0) (s₁.setTop (mkF m 9 #[.val (.int p1), .val (.int p2), .val (.int p3), .val (.int p4), .val (.int p5), .val (.int z6), .unset, .unset, .unset, .unset, .unset, .unset] [(.int p2), (.int z6)]))
  refine Run.go (fun _ k => X0.ldcInt hx hown (mvT hZ (hw _ (List.mem_of_getElem? (i := 0) rfl))) (g := (mkF m 9 #[.val (.int p1), .val (.int p2), .val (.int p3), .val (.int p4), .val (.int p5), .val (.int z6), .unset, .unset, .unset, .unset, .unset, .unset] [(.int p2), (.int z6)])) rfl (hb hby at_9) _ k) ?_
  show Run p e below s 10 136 (Q_rm0 Z p1 p2 p3 p4 p5 h0 n0) (s₁.setTop (mkF m 11 #[.val (.int p1), .val (.int p2), .val (.int p3), .val (.int p4), .val (.int p5), .val (.int z6), .unset, .unset, .unset, .unset, .unset, .unset] [(.int (2147483647 : Int32)), (.int p2), (.int z6)]))
  refine Run.go (fun _ k => XS.iand X0.here hx rfl (hb hby at_11) rfl k) ?_
  show Run p e below s 10 136 (Q_rm0 Z p1 p2 p3 p4 p5 h0 n0) (s₁.setTop (mkF m 12 #[.val (.int p1), .val (.int p2), .val (.int p3), .val (.int p4), .val (.int p5), .val (.int z6), .unset, .unset, .unset, .unset, .unset, .unset] [(.int (p2 &&& (2147483647 : Int32))), (.int z6)]))
  obtain ⟨_, _, ⟨T7, L7, k7, n7⟩, -, X7, ⟨Lc7, hQ7, l7, y7, z7⟩, st7⟩ := Jvm.LawKit.callS X0 hx (y := (⟨"java/lang/Math", "max", "(II)I"⟩ : MethodName)) hown (mvT hZ (hw _ (List.mem_of_getElem? (i := 1) rfl))) (mvT hZ (hw _ (List.mem_of_getElem? (i := 2) rfl))) (mvT hZ (hw _ (List.mem_of_getElem? (i := 3) rfl))) (mvT hZ (hw _ (List.mem_of_getElem? (i := 4) rfl))) (by decide) (backOf (W := 0) (rm1 l Z a0 hw [] z6 (p2 &&& (2147483647 : Int32)) h0 n0 Z0 ) hZ (hw _ (List.mem_of_getElem? (i := 4) rfl)) (hw _ (List.mem_of_getElem? (i := 3) rfl)) (by decide) (by decide)) (g := (mkF m 12 #[.val (.int p1), .val (.int p2), .val (.int p3), .val (.int p4), .val (.int p5), .val (.int z6), .unset, .unset, .unset, .unset, .unset, .unset] [(.int (p2 &&& (2147483647 : Int32))), (.int z6)])) rfl (by rw [hml]; rfl) (argsL := [(.int z6), (.int (p2 &&& (2147483647 : Int32)))]) (rest := []) (lenOf pd_0 rfl) rfl (by show 2 * 0 + _ ≤ _; exact Nat.le_of_eq rfl) (hb hby at_12) (fun _ _ => ⟨rfl, e0, (by decide : 0 + 0 ≤ _), (by decide : 0 + 0 ≤ _)⟩)
  dsimp only [Pt.U, Pt.locs, Pt.cells, Pt.slots] at X7 l7 y7 z7 st7 hQ7
  subst l7 y7 z7
  obtain ⟨rfl, N7q, e7q⟩ := hQ7
  have N7 := Fr.app N0 N7q
  obtain ⟨Lg7, Xg7, Ng7⟩ := Stand_gen X7 N7
  refine Run.go st7 ?_
  show Run p e below s 10 136 (Q_rm0 Z p1 p2 p3 p4 p5 h0 n0) (T7.setTop (mkF m 15 #[.val (.int p1), .val (.int p2), .val (.int p3), .val (.int p4), .val (.int p5), .val (.int z6), .unset, .unset, .unset, .unset, .unset, .unset] [(.int (F_rm1 z6 (p2 &&& (2147483647 : Int32))))]))
  refine Run.go (fun _ k => XS.istore Xg7.here hx rfl (hb hby at_15) rfl (l' := #[.val (.int p1), .val (.int p2), .val (.int p3), .val (.int p4), .val (.int p5), .val (.int z6), .val (.int (F_rm1 z6 (p2 &&& (2147483647 : Int32)))), .unset, .unset, .unset, .unset, .unset]) rfl k) ?_
  show Run p e below s 10 136 (Q_rm0 Z p1 p2 p3 p4 p5 h0 n0) (T7.setTop (mkF m 17 #[.val (.int p1), .val (.int p2), .val (.int p3), .val (.int p4), .val (.int p5), .val (.int z6), .val (.int (F_rm1 z6 (p2 &&& (2147483647 : Int32)))), .unset, .unset, .unset, .unset, .unset] []))
  obtain ⟨z8, hz8⟩ : ∃ z, z = (F_rm1 z6 (p2 &&& (2147483647 : Int32))) := ⟨_, rfl⟩
  rw [← hz8]
  show Run p e below s 10 136 (Q_rm0 Z p1 p2 p3 p4 p5 h0 n0) (T7.setTop (mkF m 17 #[.val (.int p1), .val (.int p2), .val (.int p3), .val (.int p4), .val (.int p5), .val (.int z6), .val (.int z8), .unset, .unset, .unset, .unset, .unset] []))
  refine Run.go (fun _ k => XS.iload Xg7.here hx rfl (hb hby at_17) rfl  k) ?_
  show Run p e below s 10 136 (Q_rm0 Z p1 p2 p3 p4 p5 h0 n0) (T7.setTop (mkF m 19 #[.val (.int p1), .val (.int p2), .val (.int p3), .val (.int p4), .val (.int p5), .val (.int z6), .val (.int z8), .unset, .unset, .unset, .unset, .unset] [(.int z8)]))
  refine Run.go (fun _ k => XS.iloadN Xg7.here hx rfl (hb hby at_19) rfl  k) ?_
  show Run p e below s 10 136 (Q_rm0 Z p1 p2 p3 p4 p5 h0 n0) (T7.setTop (mkF m 20 #[.val (.int p1), .val (.int p2), .val (.int p3), .val (.int p4), .val (.int p5), .val (.int z6), .val (.int z8), .unset, .unset, .unset, .unset, .unset] [(.int p3), (.int z8)]))
  refine Run.go (fun _ k => Xg7.ldcInt hx hown (mvT hZ (hw _ (List.mem_of_getElem? (i := 0) rfl))) (g := (mkF m 20 #[.val (.int p1), .val (.int p2), .val (.int p3), .val (.int p4), .val (.int p5), .val (.int z6), .val (.int z8), .unset, .unset, .unset, .unset, .unset] [(.int p3), (.int z8)])) rfl (hb hby at_20) _ k) ?_
  show Run p e below s 10 136 (Q_rm0 Z p1 p2 p3 p4 p5 h0 n0) (T7.setTop (mkF m 22 #[.val (.int p1), .val (.int p2), .val (.int p3), .val (.int p4), .val (.int p5), .val (.int z6), .val (.int z8), .unset, .unset, .unset, .unset, .unset] [(.int (2147483647 : Int32)), (.int p3), (.int z8)]))
  refine Run.go (fun _ k => XS.iand Xg7.here hx rfl (hb hby at_22) rfl k) ?_
  show Run p e below s 10 136 (Q_rm0 Z p1 p2 p3 p4 p5 h0 n0) (T7.setTop (mkF m 23 #[.val (.int p1), .val (.int p2), .val (.int p3), .val (.int p4), .val (.int p5), .val (.int z6), .val (.int z8), .unset, .unset, .unset, .unset, .unset] [(.int (p3 &&& (2147483647 : Int32))), (.int z8)]))
  obtain ⟨_, _, ⟨T9, L9, k9, n9⟩, -, X9, ⟨Lc9, hQ9, l9, y9, z9⟩, st9⟩ := Jvm.LawKit.callS Xg7 hx (y := (⟨"java/lang/Math", "max", "(II)I"⟩ : MethodName)) hown (mvT hZ (hw _ (List.mem_of_getElem? (i := 1) rfl))) (mvT hZ (hw _ (List.mem_of_getElem? (i := 2) rfl))) (mvT hZ (hw _ (List.mem_of_getElem? (i := 3) rfl))) (mvT hZ (hw _ (List.mem_of_getElem? (i := 4) rfl))) (by decide) (backOf (W := 0) (rm1 l Z a0 hw [] z8 (p3 &&& (2147483647 : Int32)) h0 n0 Z0 ) hZ (hw _ (List.mem_of_getElem? (i := 4) rfl)) (hw _ (List.mem_of_getElem? (i := 3) rfl)) (by decide) (by decide)) (g := (mkF m 23 #[.val (.int p1), .val (.int p2), .val (.int p3), .val (.int p4), .val (.int p5), .val (.int z6), .val (.int z8), .unset, .unset, .unset, .unset, .unset] [(.int (p3 &&& (2147483647 : Int32))), (.int z8)])) rfl (by rw [hml]; rfl) (argsL := [(.int z8), (.int (p3 &&& (2147483647 : Int32)))]) (rest := []) (lenOf pd_0 rfl) rfl (by show 2 * 0 + _ ≤ _; exact Nat.le_of_eq rfl) (hb hby at_23) (fun _ _ => ⟨rfl, e7q, (by decide : 0 + 0 ≤ _), (by decide : 0 + 0 ≤ _)⟩)
  dsimp only [Pt.U, Pt.locs, Pt.cells, Pt.slots] at X9 l9 y9 z9 st9 hQ9
  subst l9 y9 z9
  obtain ⟨rfl, N9q, e9q⟩ := hQ9
  have N9 := Fr.app Ng7 N9q
  obtain ⟨Lg9, Xg9, Ng9⟩ := Stand_gen X9 N9
  refine Run.go st9 ?_
  show Run p e below s 10 136 (Q_rm0 Z p1 p2 p3 p4 p5 h0 n0) (T9.setTop (mkF m 26 #[.val (.int p1), .val (.int p2), .val (.int p3), .val (.int p4), .val (.int p5), .val (.int z6), .val (.int z8), .unset, .unset, .unset, .unset, .unset] [(.int (F_rm1 z8 (p3 &&& (2147483647 : Int32))))]))
  refine Run.go (fun _ k => XS.istore Xg9.here hx rfl (hb hby at_26) rfl (l' := #[.val (.int p1), .val (.int p2), .val (.int p3), .val (.int p4), .val (.int p5), .val (.int z6), .val (.int z8), .val (.int (F_rm1 z8 (p3 &&& (2147483647 : Int32)))), .unset, .unset, .unset, .unset]) rfl k) ?_
  show Run p e below s 10 136 (Q_rm0 Z p1 p2 p3 p4 p5 h0 n0) (T9.setTop (mkF m 28 #[.val (.int p1), .val (.int p2), .val (.int p3), .val (.int p4), .val (.int p5), .val (.int z6), .val (.int z8), .val (.int (F_rm1 z8 (p3 &&& (2147483647 : Int32)))), .unset, .unset, .unset, .unset] []))
  obtain ⟨z10, hz10⟩ : ∃ z, z = (F_rm1 z8 (p3 &&& (2147483647 : Int32))) := ⟨_, rfl⟩
  rw [← hz10]
  show Run p e below s 10 136 (Q_rm0 Z p1 p2 p3 p4 p5 h0 n0) (T9.setTop (mkF m 28 #[.val (.int p1), .val (.int p2), .val (.int p3), .val (.int p4), .val (.int p5), .val (.int z6), .val (.int z8), .val (.int z10), .unset, .unset, .unset, .unset] []))
  refine Run.go (fun _ k => XS.iload Xg9.here hx rfl (hb hby at_28) rfl  k) ?_
  show Run p e below s 10 136 (Q_rm0 Z p1 p2 p3 p4 p5 h0 n0) (T9.setTop (mkF m 30 #[.val (.int p1), .val (.int p2), .val (.int p3), .val (.int p4), .val (.int p5), .val (.int z6), .val (.int z8), .val (.int z10), .unset, .unset, .unset, .unset] [(.int z10)]))
  refine Run.go (fun _ k => XS.iloadN Xg9.here hx rfl (hb hby at_30) rfl  k) ?_
  show Run p e below s 10 136 (Q_rm0 Z p1 p2 p3 p4 p5 h0 n0) (T9.setTop (mkF m 31 #[.val (.int p1), .val (.int p2), .val (.int p3), .val (.int p4), .val (.int p5), .val (.int z6), .val (.int z8), .val (.int z10), .unset, .unset, .unset, .unset] [(.int p4), (.int z10)]))
  refine Run.go (fun _ k => Xg9.ldcInt hx hown (mvT hZ (hw _ (List.mem_of_getElem? (i := 0) rfl))) (g := (mkF m 31 #[.val (.int p1), .val (.int p2), .val (.int p3), .val (.int p4), .val (.int p5), .val (.int z6), .val (.int z8), .val (.int z10), .unset, .unset, .unset, .unset] [(.int p4), (.int z10)])) rfl (hb hby at_31) _ k) ?_
  show Run p e below s 10 136 (Q_rm0 Z p1 p2 p3 p4 p5 h0 n0) (T9.setTop (mkF m 33 #[.val (.int p1), .val (.int p2), .val (.int p3), .val (.int p4), .val (.int p5), .val (.int z6), .val (.int z8), .val (.int z10), .unset, .unset, .unset, .unset] [(.int (2147483647 : Int32)), (.int p4), (.int z10)]))
  refine Run.go (fun _ k => XS.iand Xg9.here hx rfl (hb hby at_33) rfl k) ?_
  show Run p e below s 10 136 (Q_rm0 Z p1 p2 p3 p4 p5 h0 n0) (T9.setTop (mkF m 34 #[.val (.int p1), .val (.int p2), .val (.int p3), .val (.int p4), .val (.int p5), .val (.int z6), .val (.int z8), .val (.int z10), .unset, .unset, .unset, .unset] [(.int (p4 &&& (2147483647 : Int32))), (.int z10)]))
  obtain ⟨_, _, ⟨T11, L11, k11, n11⟩, -, X11, ⟨Lc11, hQ11, l11, y11, z11⟩, st11⟩ := Jvm.LawKit.callS Xg9 hx (y := (⟨"java/lang/Math", "max", "(II)I"⟩ : MethodName)) hown (mvT hZ (hw _ (List.mem_of_getElem? (i := 1) rfl))) (mvT hZ (hw _ (List.mem_of_getElem? (i := 2) rfl))) (mvT hZ (hw _ (List.mem_of_getElem? (i := 3) rfl))) (mvT hZ (hw _ (List.mem_of_getElem? (i := 4) rfl))) (by decide) (backOf (W := 0) (rm1 l Z a0 hw [] z10 (p4 &&& (2147483647 : Int32)) h0 n0 Z0 ) hZ (hw _ (List.mem_of_getElem? (i := 4) rfl)) (hw _ (List.mem_of_getElem? (i := 3) rfl)) (by decide) (by decide)) (g := (mkF m 34 #[.val (.int p1), .val (.int p2), .val (.int p3), .val (.int p4), .val (.int p5), .val (.int z6), .val (.int z8), .val (.int z10), .unset, .unset, .unset, .unset] [(.int (p4 &&& (2147483647 : Int32))), (.int z10)])) rfl (by rw [hml]; rfl) (argsL := [(.int z10), (.int (p4 &&& (2147483647 : Int32)))]) (rest := []) (lenOf pd_0 rfl) rfl (by show 2 * 0 + _ ≤ _; exact Nat.le_of_eq rfl) (hb hby at_34) (fun _ _ => ⟨rfl, e9q, (by decide : 0 + 0 ≤ _), (by decide : 0 + 0 ≤ _)⟩)
  dsimp only [Pt.U, Pt.locs, Pt.cells, Pt.slots] at X11 l11 y11 z11 st11 hQ11
  subst l11 y11 z11
  obtain ⟨rfl, N11q, e11q⟩ := hQ11
  have N11 := Fr.app Ng9 N11q
  obtain ⟨Lg11, Xg11, Ng11⟩ := Stand_gen X11 N11
  refine Run.go st11 ?_
  show Run p e below s 10 136 (Q_rm0 Z p1 p2 p3 p4 p5 h0 n0) (T11.setTop (mkF m 37 #[.val (.int p1), .val (.int p2), .val (.int p3), .val (.int p4), .val (.int p5), .val (.int z6), .val (.int z8), .val (.int z10), .unset, .unset, .unset, .unset] [(.int (F_rm1 z10 (p4 &&& (2147483647 : Int32))))]))
  refine Run.go (fun _ k => XS.istore Xg11.here hx rfl (hb hby at_37) rfl (l' := #[.val (.int p1), .val (.int p2), .val (.int p3), .val (.int p4), .val (.int p5), .val (.int z6), .val (.int z8), .val (.int z10), .val (.int (F_rm1 z10 (p4 &&& (2147483647 : Int32)))), .unset, .unset, .unset]) rfl k) ?_
  show Run p e below s 10 136 (Q_rm0 Z p1 p2 p3 p4 p5 h0 n0) (T11.setTop (mkF m 39 #[.val (.int p1), .val (.int p2), .val (.int p3), .val (.int p4), .val (.int p5), .val (.int z6), .val (.int z8), .val (.int z10), .val (.int (F_rm1 z10 (p4 &&& (2147483647 : Int32)))), .unset, .unset, .unset] []))
  obtain ⟨z12, hz12⟩ : ∃ z, z = (F_rm1 z10 (p4 &&& (2147483647 : Int32))) := ⟨_, rfl⟩
  rw [← hz12]
  show Run p e below s 10 136 (Q_rm0 Z p1 p2 p3 p4 p5 h0 n0) (T11.setTop (mkF m 39 #[.val (.int p1), .val (.int p2), .val (.int p3), .val (.int p4), .val (.int p5), .val (.int z6), .val (.int z8), .val (.int z10), .val (.int z12), .unset, .unset, .unset] []))
  refine Run.go (fun _ k => XS.iload Xg11.here hx rfl (hb hby at_39) rfl  k) ?_
  show Run p e below s 10 136 (Q_rm0 Z p1 p2 p3 p4 p5 h0 n0) (T11.setTop (mkF m 41 #[.val (.int p1), .val (.int p2), .val (.int p3), .val (.int p4), .val (.int p5), .val (.int z6), .val (.int z8), .val (.int z10), .val (.int z12), .unset, .unset, .unset] [(.int p5)]))
  refine Run.go (fun _ k => XS.iconst Xg11.here hx rfl (hb hby at_41) k) ?_
  show Run p e below s 10 136 (Q_rm0 Z p1 p2 p3 p4 p5 h0 n0) (T11.setTop (mkF m 42 #[.val (.int p1), .val (.int p2), .val (.int p3), .val (.int p4), .val (.int p5), .val (.int z6), .val (.int z8), .val (.int z10), .val (.int z12), .unset, .unset, .unset] [(.int (3 : Int32)), (.int p5)]))
  refine Run.go (fun _ k => XS.iand Xg11.here hx rfl (hb hby at_42) rfl k) ?_
  show Run p e below s 10 136 (Q_rm0 Z p1 p2 p3 p4 p5 h0 n0) (T11.setTop (mkF m 43 #[.val (.int p1), .val (.int p2), .val (.int p3), .val (.int p4), .val (.int p5), .val (.int z6), .val (.int z8), .val (.int z10), .val (.int z12), .unset, .unset, .unset] [(.int (p5 &&& (3 : Int32)))]))
  refine Run.go (fun _ k => XS.istore Xg11.here hx rfl (hb hby at_43) rfl (l' := #[.val (.int p1), .val (.int p2), .val (.int p3), .val (.int p4), .val (.int p5), .val (.int z6), .val (.int z8), .val (.int z10), .val (.int z12), .val (.int (p5 &&& (3 : Int32))), .unset, .unset]) rfl k) ?_
  show Run p e below s 10 136 (Q_rm0 Z p1 p2 p3 p4 p5 h0 n0) (T11.setTop (mkF m 45 #[.val (.int p1), .val (.int p2), .val (.int p3), .val (.int p4), .val (.int p5), .val (.int z6), .val (.int z8), .val (.int z10), .val (.int z12), .val (.int (p5 &&& (3 : Int32))), .unset, .unset] []))
  obtain ⟨z13, hz13⟩ : ∃ z, z = (p5 &&& (3 : Int32)) := ⟨_, rfl⟩
  rw [← hz13]
  show Run p e below s 10 136 (Q_rm0 Z p1 p2 p3 p4 p5 h0 n0) (T11.setTop (mkF m 45 #[.val (.int p1), .val (.int p2), .val (.int p3), .val (.int p4), .val (.int p5), .val (.int z6), .val (.int z8), .val (.int z10), .val (.int z12), .val (.int z13), .unset, .unset] []))
  have m0 : ¬ z6 < 0 := by rw [hz6]; exact own_m0 _
  have m1 : ¬ z8 < z6 ∧ ¬ z8 < 0 := by rw [hz8]; exact own_mx _ _ m0
  have m2 : ¬ z10 < z8 ∧ ¬ z10 < 0 := by rw [hz10]; exact own_mx _ _ m1.2
  have m3 : ¬ z12 < z10 ∧ ¬ z12 < 0 := by rw [hz12]; exact own_mx _ _ m2.2
  obtain ⟨T14, h14, X14, e14, E14, A14, D14, -, st14⟩ := newO Xg11 hx hZ hown (hw _ (List.mem_of_getElem? (i := 5) rfl)) (hw _ (List.mem_of_getElem? (i := 6) rfl)) (hw _ (List.mem_of_getElem? (i := 7) rfl)) e11q (g := (mkF m 45 #[.val (.int p1), .val (.int p2), .val (.int p3), .val (.int p4), .val (.int p5), .val (.int z6), .val (.int z8), .val (.int z10), .val (.int z12), .val (.int z13), .unset, .unset] [])) rfl (hb hby at_45) (by decide) (by decide)
  obtain ⟨b14, g14⟩ : ∃ z, z = h0.size := ⟨_, rfl⟩
  rw [← g14] at A14 D14 st14
  have g_b14 : n0 ≤ b14 := Nat.le_trans Z0 (Nat.le_of_eq g14.symm)
  have Z14 : n0 ≤ h14.size := Nat.le_trans Z0 E14.1
  have fx15 : Fld Z h14 b14 "com/example/subjectory/subjectory/index/Postings" "gaps" "[B" .null := D14 (Or.inl (hw _ (List.mem_of_getElem? (i := 16) rfl))) (ty := (.array .byte)) (by decide)
  have fx16 : Fld Z h14 b14 "com/example/subjectory/subjectory/index/Postings" "first" "I" (.int (0 : Int32)) := D14 (Or.inr (hw _ (List.mem_of_getElem? (i := 18) rfl))) (ty := .int) (by decide)
  have fx17 : Fld Z h14 b14 "com/example/subjectory/subjectory/index/Postings" "last" "I" (.int (0 : Int32)) := D14 (Or.inl (hw _ (List.mem_of_getElem? (i := 20) rfl))) (ty := .int) (by decide)
  have fx18 : Fld Z h14 b14 "com/example/subjectory/subjectory/index/Postings" "length" "I" (.int (0 : Int32)) := D14 (Or.inl (hw _ (List.mem_of_getElem? (i := 27) rfl))) (ty := .int) (by decide)
  refine Run.go st14 ?_
  show Run p e below s 10 136 (Q_rm0 Z p1 p2 p3 p4 p5 h0 n0) (T14.setTop (mkF m 48 #[.val (.int p1), .val (.int p2), .val (.int p3), .val (.int p4), .val (.int p5), .val (.int z6), .val (.int z8), .val (.int z10), .val (.int z12), .val (.int z13), .unset, .unset] [(.ref b14)]))
  refine Run.go (fun _ k => XS.dup X14.here hx rfl (hb hby at_48) rfl rfl k) ?_
  show Run p e below s 10 136 (Q_rm0 Z p1 p2 p3 p4 p5 h0 n0) (T14.setTop (mkF m 49 #[.val (.int p1), .val (.int p2), .val (.int p3), .val (.int p4), .val (.int p5), .val (.int z6), .val (.int z8), .val (.int z10), .val (.int z12), .val (.int z13), .unset, .unset] [(.ref b14), (.ref b14)]))
  refine Run.go (fun _ k => XS.iload X14.here hx rfl (hb hby at_49) rfl  k) ?_
  show Run p e below s 10 136 (Q_rm0 Z p1 p2 p3 p4 p5 h0 n0) (T14.setTop (mkF m 51 #[.val (.int p1), .val (.int p2), .val (.int p3), .val (.int p4), .val (.int p5), .val (.int z6), .val (.int z8), .val (.int z10), .val (.int z12), .val (.int z13), .unset, .unset] [(.int z6), (.ref b14), (.ref b14)]))
  obtain ⟨_, _, ⟨T19, L19, k19, n19⟩, -, X19, ⟨Lc19, hQ19, l19, y19, z19⟩, st19⟩ := X14.specialBack hx (y := (⟨"com/example/subjectory/subjectory/index/Postings", "<init>", "(I)V"⟩ : MethodName)) rfl hown (mvT hZ (hw _ (List.mem_of_getElem? (i := 8) rfl))) (mvT hZ (hw _ (List.mem_of_getElem? (i := 9) rfl))) (mvT hZ (hw _ (List.mem_of_getElem? (i := 10) rfl))) (by decide) (backOf (W := 1) (rm2 l Z a0 hw [] b14 z6 .null (.int (0 : Int32)) (.int (0 : Int32)) (.int (0 : Int32)) h14 n0 Z14 A14 fx15 g_b14 fx16 fx17 fx18) hZ (hw _ (List.mem_of_getElem? (i := 10) rfl)) (hw _ (List.mem_of_getElem? (i := 7) rfl)) (by decide) (by decide)) (g := (mkF m 51 #[.val (.int p1), .val (.int p2), .val (.int p3), .val (.int p4), .val (.int p5), .val (.int z6), .val (.int z8), .val (.int z10), .val (.int z12), .val (.int z13), .unset, .unset] [(.int z6), (.ref b14), (.ref b14)])) rfl (by rw [hml]; rfl) (Steps.refl _) (a := b14) (argsL := [(.int z6)]) (rest := [(.ref b14)]) (lenOf pd_4 rfl) rfl (by show 2 * 0 + _ ≤ _; exact Nat.le_of_eq rfl) (hb hby at_51) (fun _ _ => ⟨rfl, e14, (by decide : 1 + 1 ≤ _), (by decide : 4 + 4 ≤ _)⟩)
  dsimp only [Pt.U, Pt.locs, Pt.cells, Pt.slots] at X19 l19 y19 z19 st19 hQ19
  subst l19 y19 z19
  obtain ⟨b20, rfl, N19q, K19q, s_b20, fq19_0, fq19_1, fq19_2, fq19_3, fq19_4, fq19_5, fq19_6⟩ := hQ19
  have N19 := Fr.app Ng11 N19q
  have g_b20 : n0 ≤ b20 := Nat.le_trans Z14 s_b20
  have ne_b14_b20 : b14 ≠ b20 := Nat.ne_of_lt (Nat.lt_of_lt_of_le A14.lt s_b20)
  have Z19 : n0 ≤ T19.heap.size := Nat.le_trans Z14 K19q.1
  obtain ⟨Lg19, Xg19, Ng19⟩ := Stand_gen X19 N19
  refine Run.tr st19 ?_
  show Run p e below s 10 136 (Q_rm0 Z p1 p2 p3 p4 p5 h0 n0) (T19.setTop (mkF m 54 #[.val (.int p1), .val (.int p2), .val (.int p3), .val (.int p4), .val (.int p5), .val (.int z6), .val (.int z8), .val (.int z10), .val (.int z12), .val (.int z13), .unset, .unset] [(.ref b14)]))
  refine Run.go (fun _ k => XS.astore Xg19.here hx rfl (hb hby at_54) rfl rfl (l' := #[.val (.int p1), .val (.int p2), .val (.int p3), .val (.int p4), .val (.int p5), .val (.int z6), .val (.int z8), .val (.int z10), .val (.int z12), .val (.int z13), .val (.ref b14), .unset]) rfl k) ?_
  show Run p e below s 10 136 (Q_rm0 Z p1 p2 p3 p4 p5 h0 n0) (T19.setTop (mkF m 56 #[.val (.int p1), .val (.int p2), .val (.int p3), .val (.int p4), .val (.int p5), .val (.int z6), .val (.int z8), .val (.int z10), .val (.int z12), .val (.int z13), .val (.ref b14), .unset] []))
  have hP56 : Pst Z n0 T19.heap b14 ([] : List Int32) z6 4 := ⟨b20, _, _, fq19_0, fq19_1, fq19_4, fq19_3, fq19_2, g_b14, g_b20, fq19_5, fq19_6, Or.inl rfl, Nat.zero_le _, (fun i _ => ⟨0, rfl, rfl⟩), fun i hi => absurd hi (Nat.not_lt_zero i)⟩
  obtain hk21 | hk21 | hk21 | hk21 := (by rw [hz13]; exact own_k3 _ : z13 = 0 ∨ z13 = 1 ∨ z13 = 2 ∨ z13 = 3)
  · rw [hk21]
    show Run p e below s 10 136 (Q_rm0 Z p1 p2 p3 p4 p5 h0 n0) (T19.setTop (mkF m 56 #[.val (.int p1), .val (.int p2), .val (.int p3), .val (.int p4), .val (.int p5), .val (.int z6), .val (.int z8), .val (.int z10), .val (.int z12), .val (.int (0 : Int32)), .val (.ref b14), .unset] []))
    refine Run.go (fun _ k => XS.iload Xg19.here hx rfl (hb hby at_56) rfl  k) ?_
    show Run p e below s 10 136 (Q_rm0 Z p1 p2 p3 p4 p5 h0 n0) (T19.setTop (mkF m 58 #[.val (.int p1), .val (.int p2), .val (.int p3), .val (.int p4), .val (.int p5), .val (.int z6), .val (.int z8), .val (.int z10), .val (.int z12), .val (.int (0 : Int32)), .val (.ref b14), .unset] [(.int (0 : Int32))]))
    refine Run.go (fun _ k => XS.iconst Xg19.here hx rfl (hb hby at_58) k) ?_
    show Run p e below s 10 136 (Q_rm0 Z p1 p2 p3 p4 p5 h0 n0) (T19.setTop (mkF m 59 #[.val (.int p1), .val (.int p2), .val (.int p3), .val (.int p4), .val (.int p5), .val (.int z6), .val (.int z8), .val (.int z10), .val (.int z12), .val (.int (0 : Int32)), .val (.ref b14), .unset] [(.int (1 : Int32)), (.int (0 : Int32))]))
    refine Run.go (fun _ k => XS.icmpYes Xg19.here hx rfl (pc0 := 59) (pc' := 70) rfl (hb hby at_59) rfl (tlt (by decide)).1 (by decide) (by decide) k) ?_
    show Run p e below s 10 136 (Q_rm0 Z p1 p2 p3 p4 p5 h0 n0) (T19.setTop (mkF m 70 #[.val (.int p1), .val (.int p2), .val (.int p3), .val (.int p4), .val (.int p5), .val (.int z6), .val (.int z8), .val (.int z10), .val (.int z12), .val (.int (0 : Int32)), .val (.ref b14), .unset] []))
    refine Run.go (fun _ k => XS.iload Xg19.here hx rfl (hb hby at_70) rfl  k) ?_
    show Run p e below s 10 136 (Q_rm0 Z p1 p2 p3 p4 p5 h0 n0) (T19.setTop (mkF m 72 #[.val (.int p1), .val (.int p2), .val (.int p3), .val (.int p4), .val (.int p5), .val (.int z6), .val (.int z8), .val (.int z10), .val (.int z12), .val (.int (0 : Int32)), .val (.ref b14), .unset] [(.int (0 : Int32))]))
    refine Run.go (fun _ k => XS.iconst Xg19.here hx rfl (hb hby at_72) k) ?_
    show Run p e below s 10 136 (Q_rm0 Z p1 p2 p3 p4 p5 h0 n0) (T19.setTop (mkF m 73 #[.val (.int p1), .val (.int p2), .val (.int p3), .val (.int p4), .val (.int p5), .val (.int z6), .val (.int z8), .val (.int z10), .val (.int z12), .val (.int (0 : Int32)), .val (.ref b14), .unset] [(.int (2 : Int32)), (.int (0 : Int32))]))
    refine Run.go (fun _ k => XS.icmpYes Xg19.here hx rfl (pc0 := 73) (pc' := 84) rfl (hb hby at_73) rfl (tlt (by decide)).1 (by decide) (by decide) k) ?_
    show Run p e below s 10 136 (Q_rm0 Z p1 p2 p3 p4 p5 h0 n0) (T19.setTop (mkF m 84 #[.val (.int p1), .val (.int p2), .val (.int p3), .val (.int p4), .val (.int p5), .val (.int z6), .val (.int z8), .val (.int z10), .val (.int z12), .val (.int (0 : Int32)), .val (.ref b14), .unset] []))
    refine Run.go (fun _ k => XS.iload Xg19.here hx rfl (hb hby at_84) rfl  k) ?_
    show Run p e below s 10 136 (Q_rm0 Z p1 p2 p3 p4 p5 h0 n0) (T19.setTop (mkF m 86 #[.val (.int p1), .val (.int p2), .val (.int p3), .val (.int p4), .val (.int p5), .val (.int z6), .val (.int z8), .val (.int z10), .val (.int z12), .val (.int (0 : Int32)), .val (.ref b14), .unset] [(.int (0 : Int32))]))
    refine Run.go (fun _ k => XS.iconst Xg19.here hx rfl (hb hby at_86) k) ?_
    show Run p e below s 10 136 (Q_rm0 Z p1 p2 p3 p4 p5 h0 n0) (T19.setTop (mkF m 87 #[.val (.int p1), .val (.int p2), .val (.int p3), .val (.int p4), .val (.int p5), .val (.int z6), .val (.int z8), .val (.int z10), .val (.int z12), .val (.int (0 : Int32)), .val (.ref b14), .unset] [(.int (3 : Int32)), (.int (0 : Int32))]))
    refine Run.go (fun _ k => XS.icmpYes Xg19.here hx rfl (pc0 := 87) (pc' := 98) rfl (hb hby at_87) rfl (tlt (by decide)).1 (by decide) (by decide) k) ?_
    show Run p e below s 10 136 (Q_rm0 Z p1 p2 p3 p4 p5 h0 n0) (T19.setTop (mkF m 98 #[.val (.int p1), .val (.int p2), .val (.int p3), .val (.int p4), .val (.int p5), .val (.int z6), .val (.int z8), .val (.int z10), .val (.int z12), .val (.int (0 : Int32)), .val (.ref b14), .unset] []))
    refine Run.go (fun _ k => XS.iload Xg19.here hx rfl (hb hby at_98) rfl  k) ?_
    show Run p e below s 10 136 (Q_rm0 Z p1 p2 p3 p4 p5 h0 n0) (T19.setTop (mkF m 100 #[.val (.int p1), .val (.int p2), .val (.int p3), .val (.int p4), .val (.int p5), .val (.int z6), .val (.int z8), .val (.int z10), .val (.int z12), .val (.int (0 : Int32)), .val (.ref b14), .unset] [(.int z6)]))
    refine Run.go (fun _ k => XS.aload Xg19.here hx rfl (hb hby at_100) rfl rfl k) ?_
    show Run p e below s 10 136 (Q_rm0 Z p1 p2 p3 p4 p5 h0 n0) (T19.setTop (mkF m 102 #[.val (.int p1), .val (.int p2), .val (.int p3), .val (.int p4), .val (.int p5), .val (.int z6), .val (.int z8), .val (.int z10), .val (.int z12), .val (.int (0 : Int32)), .val (.ref b14), .unset] [(.ref b14), (.int z6)]))
    obtain ⟨cq22, kq22, q22a, q22b, q22c⟩ := isOf hZ rfl fq19_0
    obtain ⟨_, _, ⟨T22, L22, k22, n22⟩, -, X22, ⟨Lc22, hQ22, l22, y22, z22⟩, st22⟩ := Xg19.virtualBack hx (y := (⟨"com/example/subjectory/subjectory/index/Postings", "toValue", "()[B"⟩ : MethodName)) (z := (⟨"com/example/subjectory/subjectory/index/Postings", "toValue", "()[B"⟩ : MethodName)) hown (mvT hZ (hw _ (List.mem_of_getElem? (i := 21) rfl))) (mvT hZ (hw _ (List.mem_of_getElem? (i := 22) rfl))) (notFace_of_selects (args := #[]) (mvT hZ (hw _ (List.mem_of_getElem? (i := 24) rfl)))) (mvT hZ (hw _ (List.mem_of_getElem? (i := 24) rfl))) (mvT hZ (hw _ (List.mem_of_getElem? (i := 23) rfl))) (by decide) (backOf (W := 1) (rm4 l Z a0 hw [] b14 ([] : List Int32) z6 4 T19.heap n0 Z19 hP56) hZ (hw _ (List.mem_of_getElem? (i := 25) rfl)) (hw _ (List.mem_of_getElem? (i := 7) rfl)) (by decide) (by decide)) q22a q22c (g := (mkF m 102 #[.val (.int p1), .val (.int p2), .val (.int p3), .val (.int p4), .val (.int p5), .val (.int z6), .val (.int z8), .val (.int z10), .val (.int z12), .val (.int (0 : Int32)), .val (.ref b14), .unset] [(.ref b14), (.int z6)])) rfl (by rw [hml]; rfl) (Steps.refl _) (argsL := []) (rest := [(.int z6)]) (lenOf pd_5 rfl) rfl (by show 2 * 0 + _ ≤ _; exact Nat.le_of_eq rfl) (hb hby at_102) (fun _ _ => ⟨rfl, rfl, (by decide : 2 + 1 ≤ _), (by decide : 8 + 16 ≤ _)⟩)
    dsimp only [Pt.U, Pt.locs, Pt.cells, Pt.slots] at X22 l22 y22 z22 st22 hQ22
    subst l22 y22 z22
    obtain ⟨b23, rfl, N22q, K22q, s_b23, fq22_0⟩ := hQ22
    have N22 := Fr.app Ng19 N22q
    have g_b23 : n0 ≤ b23 := Nat.le_trans Z19 s_b23
    have ne_b14_b23 : b14 ≠ b23 := Nat.ne_of_lt (Nat.lt_of_lt_of_le fq19_0.lt s_b23)
    have Z22 : n0 ≤ T22.heap.size := Nat.le_trans Z19 K22q.1
    obtain ⟨Lg22, Xg22, Ng22⟩ := Stand_gen X22 N22
    refine Run.tr st22 ?_
    show Run p e below s 10 136 (Q_rm0 Z p1 p2 p3 p4 p5 h0 n0) (T22.setTop (mkF m 105 #[.val (.int p1), .val (.int p2), .val (.int p3), .val (.int p4), .val (.int p5), .val (.int z6), .val (.int z8), .val (.int z10), .val (.int z12), .val (.int (0 : Int32)), .val (.ref b14), .unset] [(.ref b23), (.int z6)]))
    have fx25 := (fq19_0.keep K22q)
    obtain ⟨_, _, ⟨T24, L24, k24, n24⟩, -, X24, ⟨Lc24, hQ24, l24, y24, z24⟩, st24⟩ := Jvm.LawKit.callS Xg22 hx (y := (⟨"com/example/subjectory/subjectory/index/Postings", "ordinals", "(I[B)[I"⟩ : MethodName)) hown (mvT hZ (hw _ (List.mem_of_getElem? (i := 39) rfl))) (mvT hZ (hw _ (List.mem_of_getElem? (i := 40) rfl))) (mvT hZ (hw _ (List.mem_of_getElem? (i := 7) rfl))) (mvT hZ (hw _ (List.mem_of_getElem? (i := 41) rfl))) (by decide) (backOf (W := 0) (rm7 l Z a0 hw [] z6 b23 (([] : List Int32)) T22.heap n0 Z22 fq22_0 (Nat.le_trans (Nat.le_refl 0 : ([] : List Int32).length ≤ 0) (by decide : 0 ≤ 16))) hZ (hw _ (List.mem_of_getElem? (i := 41) rfl)) (hw _ (List.mem_of_getElem? (i := 7) rfl)) (by decide) (by decide)) (g := (mkF m 105 #[.val (.int p1), .val (.int p2), .val (.int p3), .val (.int p4), .val (.int p5), .val (.int z6), .val (.int z8), .val (.int z10), .val (.int z12), .val (.int (0 : Int32)), .val (.ref b14), .unset] [(.ref b23), (.int z6)])) rfl (by rw [hml]; rfl) (argsL := [(.int z6), (.ref b23)]) (rest := []) (lenOf pd_6 rfl) rfl (by show 2 * 0 + _ ≤ _; exact Nat.le_of_eq rfl) (hb hby at_105) (fun _ _ => ⟨rfl, rfl, (by decide : 3 + 1 ≤ _), (by decide : 24 + 16 ≤ _)⟩)
    dsimp only [Pt.U, Pt.locs, Pt.cells, Pt.slots] at X24 l24 y24 z24 st24 hQ24
    subst l24 y24 z24
    obtain ⟨b26, rfl, N24q, K24q, s_b26, fq24_0⟩ := hQ24
    have N24 := Fr.app Ng22 N24q
    have g_b26 : n0 ≤ b26 := Nat.le_trans Z22 s_b26
    have ne_b14_b26 : b14 ≠ b26 := Nat.ne_of_lt (Nat.lt_of_lt_of_le fx25.lt s_b26)
    have ne_b23_b26 : b23 ≠ b26 := Nat.ne_of_lt (Nat.lt_of_lt_of_le fq22_0.lt s_b26)
    have Z24 : n0 ≤ T24.heap.size := Nat.le_trans Z22 K24q.1
    obtain ⟨Lg24, Xg24, Ng24⟩ := Stand_gen X24 N24
    refine Run.go st24 ?_
    show Run p e below s 10 136 (Q_rm0 Z p1 p2 p3 p4 p5 h0 n0) (T24.setTop (mkF m 108 #[.val (.int p1), .val (.int p2), .val (.int p3), .val (.int p4), .val (.int p5), .val (.int z6), .val (.int z8), .val (.int z10), .val (.int z12), .val (.int (0 : Int32)), .val (.ref b14), .unset] [(.ref b26)]))
    have hR0 : own_run (([] : List Int32)) z6 0 0 = [] := own_R0 _
    refine Run.go (fun _ k => XS.astore Xg24.here hx rfl (hb hby at_108) rfl rfl (l' := #[.val (.int p1), .val (.int p2), .val (.int p3), .val (.int p4), .val (.int p5), .val (.int z6), .val (.int z8), .val (.int z10), .val (.int z12), .val (.int (0 : Int32)), .val (.ref b14), .val (.ref b26)]) rfl k) ?_
    show Run p e below s 10 136 (Q_rm0 Z p1 p2 p3 p4 p5 h0 n0) (T24.setTop (mkF m 110 #[.val (.int p1), .val (.int p2), .val (.int p3), .val (.int p4), .val (.int p5), .val (.int z6), .val (.int z8), .val (.int z10), .val (.int z12), .val (.int (0 : Int32)), .val (.ref b14), .val (.ref b26)] []))
    refine Run.go (fun _ k => XS.aload Xg24.here hx rfl (hb hby at_110) rfl rfl k) ?_
    show Run p e below s 10 136 (Q_rm0 Z p1 p2 p3 p4 p5 h0 n0) (T24.setTop (mkF m 112 #[.val (.int p1), .val (.int p2), .val (.int p3), .val (.int p4), .val (.int p5), .val (.int z6), .val (.int z8), .val (.int z10), .val (.int z12), .val (.int (0 : Int32)), .val (.ref b14), .val (.ref b26)] [(.ref b26)]))
    refine Run.go (fun _ k => ary_len Xg24 hx hZ rfl fq24_0 (g := (mkF m 112 #[.val (.int p1), .val (.int p2), .val (.int p3), .val (.int p4), .val (.int p5), .val (.int z6), .val (.int z8), .val (.int z10), .val (.int z12), .val (.int (0 : Int32)), .val (.ref b14), .val (.ref b26)] [(.ref b26)])) rfl rfl (hb hby at_112) (z := (own_run (([] : List Int32)) z6 0 0).length.toInt32) rfl _ k) ?_
    show Run p e below s 10 136 (Q_rm0 Z p1 p2 p3 p4 p5 h0 n0) (T24.setTop (mkF m 113 #[.val (.int p1), .val (.int p2), .val (.int p3), .val (.int p4), .val (.int p5), .val (.int z6), .val (.int z8), .val (.int z10), .val (.int z12), .val (.int (0 : Int32)), .val (.ref b14), .val (.ref b26)] [(.int (own_run (([] : List Int32)) z6 0 0).length.toInt32)]))
    refine Run.go (fun _ k => XS.iload Xg24.here hx rfl (hb hby at_113) rfl  k) ?_
    show Run p e below s 10 136 (Q_rm0 Z p1 p2 p3 p4 p5 h0 n0) (T24.setTop (mkF m 115 #[.val (.int p1), .val (.int p2), .val (.int p3), .val (.int p4), .val (.int p5), .val (.int z6), .val (.int z8), .val (.int z10), .val (.int z12), .val (.int (0 : Int32)), .val (.ref b14), .val (.ref b26)] [(.int (0 : Int32)), (.int (own_run (([] : List Int32)) z6 0 0).length.toInt32)]))
    refine Run.go (fun _ k => XS.icmpYes Xg24.here hx rfl (pc0 := 115) (pc' := 120) rfl (hb hby at_115) rfl (teq (congrArg (fun l : List Int32 => l.length.toInt32) hR0)).1 (by decide) (by decide) k) ?_
    show Run p e below s 10 136 (Q_rm0 Z p1 p2 p3 p4 p5 h0 n0) (T24.setTop (mkF m 120 #[.val (.int p1), .val (.int p2), .val (.int p3), .val (.int p4), .val (.int p5), .val (.int z6), .val (.int z8), .val (.int z10), .val (.int z12), .val (.int (0 : Int32)), .val (.ref b14), .val (.ref b26)] []))
    refine Run.go (fun _ k => XS.iload Xg24.here hx rfl (hb hby at_120) rfl  k) ?_
    show Run p e below s 10 136 (Q_rm0 Z p1 p2 p3 p4 p5 h0 n0) (T24.setTop (mkF m 122 #[.val (.int p1), .val (.int p2), .val (.int p3), .val (.int p4), .val (.int p5), .val (.int z6), .val (.int z8), .val (.int z10), .val (.int z12), .val (.int (0 : Int32)), .val (.ref b14), .val (.ref b26)] [(.int (0 : Int32))]))
    refine Run.go (fun _ k => XS.iconst Xg24.here hx rfl (hb hby at_122) k) ?_
    show Run p e below s 10 136 (Q_rm0 Z p1 p2 p3 p4 p5 h0 n0) (T24.setTop (mkF m 123 #[.val (.int p1), .val (.int p2), .val (.int p3), .val (.int p4), .val (.int p5), .val (.int z6), .val (.int z8), .val (.int z10), .val (.int z12), .val (.int (0 : Int32)), .val (.ref b14), .val (.ref b26)] [(.int (1 : Int32)), (.int (0 : Int32))]))
    refine Run.go (fun _ k => XS.icmpYes Xg24.here hx rfl (pc0 := 123) (pc' := 137) rfl (hb hby at_123) rfl (tlt (by decide)).1 (by decide) (by decide) k) ?_
    show Run p e below s 10 136 (Q_rm0 Z p1 p2 p3 p4 p5 h0 n0) (T24.setTop (mkF m 137 #[.val (.int p1), .val (.int p2), .val (.int p3), .val (.int p4), .val (.int p5), .val (.int z6), .val (.int z8), .val (.int z10), .val (.int z12), .val (.int (0 : Int32)), .val (.ref b14), .val (.ref b26)] []))
    refine Run.go (fun _ k => XS.iload Xg24.here hx rfl (hb hby at_137) rfl  k) ?_
    show Run p e below s 10 136 (Q_rm0 Z p1 p2 p3 p4 p5 h0 n0) (T24.setTop (mkF m 139 #[.val (.int p1), .val (.int p2), .val (.int p3), .val (.int p4), .val (.int p5), .val (.int z6), .val (.int z8), .val (.int z10), .val (.int z12), .val (.int (0 : Int32)), .val (.ref b14), .val (.ref b26)] [(.int (0 : Int32))]))
    refine Run.go (fun _ k => XS.iconst Xg24.here hx rfl (hb hby at_139) k) ?_
    show Run p e below s 10 136 (Q_rm0 Z p1 p2 p3 p4 p5 h0 n0) (T24.setTop (mkF m 140 #[.val (.int p1), .val (.int p2), .val (.int p3), .val (.int p4), .val (.int p5), .val (.int z6), .val (.int z8), .val (.int z10), .val (.int z12), .val (.int (0 : Int32)), .val (.ref b14), .val (.ref b26)] [(.int (2 : Int32)), (.int (0 : Int32))]))
    refine Run.go (fun _ k => XS.icmpYes Xg24.here hx rfl (pc0 := 140) (pc' := 154) rfl (hb hby at_140) rfl (tlt (by decide)).1 (by decide) (by decide) k) ?_
    show Run p e below s 10 136 (Q_rm0 Z p1 p2 p3 p4 p5 h0 n0) (T24.setTop (mkF m 154 #[.val (.int p1), .val (.int p2), .val (.int p3), .val (.int p4), .val (.int p5), .val (.int z6), .val (.int z8), .val (.int z10), .val (.int z12), .val (.int (0 : Int32)), .val (.ref b14), .val (.ref b26)] []))
    refine Run.go (fun _ k => XS.iload Xg24.here hx rfl (hb hby at_154) rfl  k) ?_
    show Run p e below s 10 136 (Q_rm0 Z p1 p2 p3 p4 p5 h0 n0) (T24.setTop (mkF m 156 #[.val (.int p1), .val (.int p2), .val (.int p3), .val (.int p4), .val (.int p5), .val (.int z6), .val (.int z8), .val (.int z10), .val (.int z12), .val (.int (0 : Int32)), .val (.ref b14), .val (.ref b26)] [(.int (0 : Int32))]))
    refine Run.go (fun _ k => XS.iconst Xg24.here hx rfl (hb hby at_156) k) ?_
    show Run p e below s 10 136 (Q_rm0 Z p1 p2 p3 p4 p5 h0 n0) (T24.setTop (mkF m 157 #[.val (.int p1), .val (.int p2), .val (.int p3), .val (.int p4), .val (.int p5), .val (.int z6), .val (.int z8), .val (.int z10), .val (.int z12), .val (.int (0 : Int32)), .val (.ref b14), .val (.ref b26)] [(.int (3 : Int32)), (.int (0 : Int32))]))
    refine Run.go (fun _ k => XS.icmpYes Xg24.here hx rfl (pc0 := 157) (pc' := 171) rfl (hb hby at_157) rfl (tlt (by decide)).1 (by decide) (by decide) k) ?_
    show Run p e below s 10 136 (Q_rm0 Z p1 p2 p3 p4 p5 h0 n0) (T24.setTop (mkF m 171 #[.val (.int p1), .val (.int p2), .val (.int p3), .val (.int p4), .val (.int p5), .val (.int z6), .val (.int z8), .val (.int z10), .val (.int z12), .val (.int (0 : Int32)), .val (.ref b14), .val (.ref b26)] []))
    refine Run.go (fun _ k => XS.iconst Xg24.here hx rfl (hb hby at_171) k) ?_
    show Run p e below s 10 136 (Q_rm0 Z p1 p2 p3 p4 p5 h0 n0) (T24.setTop (mkF m 172 #[.val (.int p1), .val (.int p2), .val (.int p3), .val (.int p4), .val (.int p5), .val (.int z6), .val (.int z8), .val (.int z10), .val (.int z12), .val (.int (0 : Int32)), .val (.ref b14), .val (.ref b26)] [(.int (1 : Int32))]))
    exact Run.retN (y := 1) Xg24 hx (t := .boolean) Bd.returns (by simp) rfl Bd.notSynchronized (hb hby at_172) (by decide) (by decide) ⟨rfl, Ng24⟩
  · rw [hk21]
    show Run p e below s 10 136 (Q_rm0 Z p1 p2 p3 p4 p5 h0 n0) (T19.setTop (mkF m 56 #[.val (.int p1), .val (.int p2), .val (.int p3), .val (.int p4), .val (.int p5), .val (.int z6), .val (.int z8), .val (.int z10), .val (.int z12), .val (.int (1 : Int32)), .val (.ref b14), .unset] []))
    refine Run.go (fun _ k => XS.iload Xg19.here hx rfl (hb hby at_56) rfl  k) ?_
    show Run p e below s 10 136 (Q_rm0 Z p1 p2 p3 p4 p5 h0 n0) (T19.setTop (mkF m 58 #[.val (.int p1), .val (.int p2), .val (.int p3), .val (.int p4), .val (.int p5), .val (.int z6), .val (.int z8), .val (.int z10), .val (.int z12), .val (.int (1 : Int32)), .val (.ref b14), .unset] [(.int (1 : Int32))]))
    refine Run.go (fun _ k => XS.iconst Xg19.here hx rfl (hb hby at_58) k) ?_
    show Run p e below s 10 136 (Q_rm0 Z p1 p2 p3 p4 p5 h0 n0) (T19.setTop (mkF m 59 #[.val (.int p1), .val (.int p2), .val (.int p3), .val (.int p4), .val (.int p5), .val (.int z6), .val (.int z8), .val (.int z10), .val (.int z12), .val (.int (1 : Int32)), .val (.ref b14), .unset] [(.int (1 : Int32)), (.int (1 : Int32))]))
    refine Run.go (fun _ k => XS.icmpNo Xg19.here hx rfl (hb hby at_59) rfl (flt (by decide)).1 k) ?_
    show Run p e below s 10 136 (Q_rm0 Z p1 p2 p3 p4 p5 h0 n0) (T19.setTop (mkF m 62 #[.val (.int p1), .val (.int p2), .val (.int p3), .val (.int p4), .val (.int p5), .val (.int z6), .val (.int z8), .val (.int z10), .val (.int z12), .val (.int (1 : Int32)), .val (.ref b14), .unset] []))
    refine Run.go (fun _ k => XS.aload Xg19.here hx rfl (hb hby at_62) rfl rfl k) ?_
    show Run p e below s 10 136 (Q_rm0 Z p1 p2 p3 p4 p5 h0 n0) (T19.setTop (mkF m 64 #[.val (.int p1), .val (.int p2), .val (.int p3), .val (.int p4), .val (.int p5), .val (.int z6), .val (.int z8), .val (.int z10), .val (.int z12), .val (.int (1 : Int32)), .val (.ref b14), .unset] [(.ref b14)]))
    refine Run.go (fun _ k => XS.iload Xg19.here hx rfl (hb hby at_64) rfl  k) ?_
    show Run p e below s 10 136 (Q_rm0 Z p1 p2 p3 p4 p5 h0 n0) (T19.setTop (mkF m 66 #[.val (.int p1), .val (.int p2), .val (.int p3), .val (.int p4), .val (.int p5), .val (.int z6), .val (.int z8), .val (.int z10), .val (.int z12), .val (.int (1 : Int32)), .val (.ref b14), .unset] [(.int z8), (.ref b14)]))
    obtain ⟨cq27, kq27, q27a, q27b, q27c⟩ := isOf hZ rfl fq19_0
    obtain ⟨_, _, ⟨T27, L27, k27, n27⟩, -, X27, ⟨Lc27, hQ27, l27, y27, z27⟩, st27⟩ := Xg19.virtualBack hx (y := (⟨"com/example/subjectory/subjectory/index/Postings", "add", "(I)I"⟩ : MethodName)) (z := (⟨"com/example/subjectory/subjectory/index/Postings", "add", "(I)I"⟩ : MethodName)) hown (mvT hZ (hw _ (List.mem_of_getElem? (i := 46) rfl))) (mvT hZ (hw _ (List.mem_of_getElem? (i := 47) rfl))) (notFace_of_selects (args := #[]) (mvT hZ (hw _ (List.mem_of_getElem? (i := 49) rfl)))) (mvT hZ (hw _ (List.mem_of_getElem? (i := 49) rfl))) (mvT hZ (hw _ (List.mem_of_getElem? (i := 48) rfl))) (by decide) (backOf (W := 0) (rm9 l Z a0 hw [] b14 z8 ([] : List Int32) z6 4 T19.heap n0 Z19 g_b14 hP56 (own_sb _ _ m0 m1.1).1 (own_sb _ _ m0 m1.1).2 (Nat.le_trans (Nat.le_refl 0 : ([] : List Int32).length ≤ 0) (by decide : 0 ≤ 10))) hZ (hw _ (List.mem_of_getElem? (i := 50) rfl)) (hw _ (List.mem_of_getElem? (i := 7) rfl)) (by decide) (by decide)) q27a q27c (g := (mkF m 66 #[.val (.int p1), .val (.int p2), .val (.int p3), .val (.int p4), .val (.int p5), .val (.int z6), .val (.int z8), .val (.int z10), .val (.int z12), .val (.int (1 : Int32)), .val (.ref b14), .unset] [(.int z8), (.ref b14)])) rfl (by rw [hml]; rfl) (Steps.refl _) (argsL := [(.int z8)]) (rest := []) (lenOf pd_7 rfl) rfl (by show 2 * 0 + _ ≤ _; exact Nat.le_of_eq rfl) (hb hby at_66) (fun _ _ => ⟨rfl, rfl, (by decide : 2 + 2 ≤ _), (by decide : 8 + 32 ≤ _)⟩)
    dsimp only [Pt.U, Pt.locs, Pt.cells, Pt.slots] at X27 l27 y27 z27 st27 hQ27
    subst l27 y27 z27
    obtain ⟨r28, r29, rfl, N27q, K27q, fq27_0, fq27_1⟩ := hQ27
    have N27 := Fr.app Ng19 N27q
    have Z27 : n0 ≤ T27.heap.size := K27q.1
    obtain ⟨Lg27, Xg27, Ng27⟩ := Stand_gen X27 N27
    refine Run.tr st27 ?_
    show Run p e below s 10 136 (Q_rm0 Z p1 p2 p3 p4 p5 h0 n0) (T27.setTop (mkF m 69 #[.val (.int p1), .val (.int p2), .val (.int p3), .val (.int p4), .val (.int p5), .val (.int z6), .val (.int z8), .val (.int z10), .val (.int z12), .val (.int (1 : Int32)), .val (.ref b14), .unset] [(.int r28)]))
    refine Run.go (fun _ k => XS.pop Xg27.here hx rfl (hb hby at_69) rfl rfl k) ?_
    show Run p e below s 10 136 (Q_rm0 Z p1 p2 p3 p4 p5 h0 n0) (T27.setTop (mkF m 70 #[.val (.int p1), .val (.int p2), .val (.int p3), .val (.int p4), .val (.int p5), .val (.int z6), .val (.int z8), .val (.int z10), .val (.int z12), .val (.int (1 : Int32)), .val (.ref b14), .unset] []))
    refine Run.go (fun _ k => XS.iload Xg27.here hx rfl (hb hby at_70) rfl  k) ?_
    show Run p e below s 10 136 (Q_rm0 Z p1 p2 p3 p4 p5 h0 n0) (T27.setTop (mkF m 72 #[.val (.int p1), .val (.int p2), .val (.int p3), .val (.int p4), .val (.int p5), .val (.int z6), .val (.int z8), .val (.int z10), .val (.int z12), .val (.int (1 : Int32)), .val (.ref b14), .unset] [(.int (1 : Int32))]))
    refine Run.go (fun _ k => XS.iconst Xg27.here hx rfl (hb hby at_72) k) ?_
    show Run p e below s 10 136 (Q_rm0 Z p1 p2 p3 p4 p5 h0 n0) (T27.setTop (mkF m 73 #[.val (.int p1), .val (.int p2), .val (.int p3), .val (.int p4), .val (.int p5), .val (.int z6), .val (.int z8), .val (.int z10), .val (.int z12), .val (.int (1 : Int32)), .val (.ref b14), .unset] [(.int (2 : Int32)), (.int (1 : Int32))]))
    refine Run.go (fun _ k => XS.icmpYes Xg27.here hx rfl (pc0 := 73) (pc' := 84) rfl (hb hby at_73) rfl (tlt (by decide)).1 (by decide) (by decide) k) ?_
    show Run p e below s 10 136 (Q_rm0 Z p1 p2 p3 p4 p5 h0 n0) (T27.setTop (mkF m 84 #[.val (.int p1), .val (.int p2), .val (.int p3), .val (.int p4), .val (.int p5), .val (.int z6), .val (.int z8), .val (.int z10), .val (.int z12), .val (.int (1 : Int32)), .val (.ref b14), .unset] []))
    refine Run.go (fun _ k => XS.iload Xg27.here hx rfl (hb hby at_84) rfl  k) ?_
    show Run p e below s 10 136 (Q_rm0 Z p1 p2 p3 p4 p5 h0 n0) (T27.setTop (mkF m 86 #[.val (.int p1), .val (.int p2), .val (.int p3), .val (.int p4), .val (.int p5), .val (.int z6), .val (.int z8), .val (.int z10), .val (.int z12), .val (.int (1 : Int32)), .val (.ref b14), .unset] [(.int (1 : Int32))]))
    refine Run.go (fun _ k => XS.iconst Xg27.here hx rfl (hb hby at_86) k) ?_
    show Run p e below s 10 136 (Q_rm0 Z p1 p2 p3 p4 p5 h0 n0) (T27.setTop (mkF m 87 #[.val (.int p1), .val (.int p2), .val (.int p3), .val (.int p4), .val (.int p5), .val (.int z6), .val (.int z8), .val (.int z10), .val (.int z12), .val (.int (1 : Int32)), .val (.ref b14), .unset] [(.int (3 : Int32)), (.int (1 : Int32))]))
    refine Run.go (fun _ k => XS.icmpYes Xg27.here hx rfl (pc0 := 87) (pc' := 98) rfl (hb hby at_87) rfl (tlt (by decide)).1 (by decide) (by decide) k) ?_
    show Run p e below s 10 136 (Q_rm0 Z p1 p2 p3 p4 p5 h0 n0) (T27.setTop (mkF m 98 #[.val (.int p1), .val (.int p2), .val (.int p3), .val (.int p4), .val (.int p5), .val (.int z6), .val (.int z8), .val (.int z10), .val (.int z12), .val (.int (1 : Int32)), .val (.ref b14), .unset] []))
    refine Run.go (fun _ k => XS.iload Xg27.here hx rfl (hb hby at_98) rfl  k) ?_
    show Run p e below s 10 136 (Q_rm0 Z p1 p2 p3 p4 p5 h0 n0) (T27.setTop (mkF m 100 #[.val (.int p1), .val (.int p2), .val (.int p3), .val (.int p4), .val (.int p5), .val (.int z6), .val (.int z8), .val (.int z10), .val (.int z12), .val (.int (1 : Int32)), .val (.ref b14), .unset] [(.int z6)]))
    refine Run.go (fun _ k => XS.aload Xg27.here hx rfl (hb hby at_100) rfl rfl k) ?_
    show Run p e below s 10 136 (Q_rm0 Z p1 p2 p3 p4 p5 h0 n0) (T27.setTop (mkF m 102 #[.val (.int p1), .val (.int p2), .val (.int p3), .val (.int p4), .val (.int p5), .val (.int z6), .val (.int z8), .val (.int z10), .val (.int z12), .val (.int (1 : Int32)), .val (.ref b14), .unset] [(.ref b14), (.int z6)]))
    obtain ⟨cq30, kq30, q30a, q30b, q30c⟩ := isOf hZ rfl fq27_0
    obtain ⟨_, _, ⟨T30, L30, k30, n30⟩, -, X30, ⟨Lc30, hQ30, l30, y30, z30⟩, st30⟩ := Xg27.virtualBack hx (y := (⟨"com/example/subjectory/subjectory/index/Postings", "toValue", "()[B"⟩ : MethodName)) (z := (⟨"com/example/subjectory/subjectory/index/Postings", "toValue", "()[B"⟩ : MethodName)) hown (mvT hZ (hw _ (List.mem_of_getElem? (i := 21) rfl))) (mvT hZ (hw _ (List.mem_of_getElem? (i := 22) rfl))) (notFace_of_selects (args := #[]) (mvT hZ (hw _ (List.mem_of_getElem? (i := 24) rfl)))) (mvT hZ (hw _ (List.mem_of_getElem? (i := 24) rfl))) (mvT hZ (hw _ (List.mem_of_getElem? (i := 23) rfl))) (by decide) (backOf (W := 1) (rm4 l Z a0 hw [] b14 (([] : List Int32) ++ own_enc 4 (z8 - z6)) z8 r29 T27.heap n0 Z27 fq27_1) hZ (hw _ (List.mem_of_getElem? (i := 25) rfl)) (hw _ (List.mem_of_getElem? (i := 7) rfl)) (by decide) (by decide)) q30a q30c (g := (mkF m 102 #[.val (.int p1), .val (.int p2), .val (.int p3), .val (.int p4), .val (.int p5), .val (.int z6), .val (.int z8), .val (.int z10), .val (.int z12), .val (.int (1 : Int32)), .val (.ref b14), .unset] [(.ref b14), (.int z6)])) rfl (by rw [hml]; rfl) (Steps.refl _) (argsL := []) (rest := [(.int z6)]) (lenOf pd_5 rfl) rfl (by show 2 * 0 + _ ≤ _; exact Nat.le_of_eq rfl) (hb hby at_102) (fun _ _ => ⟨rfl, rfl, (by decide : 4 + 1 ≤ _), (by decide : 40 + 16 ≤ _)⟩)
    dsimp only [Pt.U, Pt.locs, Pt.cells, Pt.slots] at X30 l30 y30 z30 st30 hQ30
    subst l30 y30 z30
    obtain ⟨b31, rfl, N30q, K30q, s_b31, fq30_0⟩ := hQ30
    have N30 := Fr.app Ng27 N30q
    have g_b31 : n0 ≤ b31 := Nat.le_trans Z27 s_b31
    have ne_b14_b31 : b14 ≠ b31 := Nat.ne_of_lt (Nat.lt_of_lt_of_le fq27_0.lt s_b31)
    have Z30 : n0 ≤ T30.heap.size := Nat.le_trans Z27 K30q.1
    obtain ⟨Lg30, Xg30, Ng30⟩ := Stand_gen X30 N30
    refine Run.tr st30 ?_
    show Run p e below s 10 136 (Q_rm0 Z p1 p2 p3 p4 p5 h0 n0) (T30.setTop (mkF m 105 #[.val (.int p1), .val (.int p2), .val (.int p3), .val (.int p4), .val (.int p5), .val (.int z6), .val (.int z8), .val (.int z10), .val (.int z12), .val (.int (1 : Int32)), .val (.ref b14), .unset] [(.ref b31), (.int z6)]))
    have fx33 := (fq27_0.keep K30q)
    obtain ⟨_, _, ⟨T32, L32, k32, n32⟩, -, X32, ⟨Lc32, hQ32, l32, y32, z32⟩, st32⟩ := Jvm.LawKit.callS Xg30 hx (y := (⟨"com/example/subjectory/subjectory/index/Postings", "ordinals", "(I[B)[I"⟩ : MethodName)) hown (mvT hZ (hw _ (List.mem_of_getElem? (i := 39) rfl))) (mvT hZ (hw _ (List.mem_of_getElem? (i := 40) rfl))) (mvT hZ (hw _ (List.mem_of_getElem? (i := 7) rfl))) (mvT hZ (hw _ (List.mem_of_getElem? (i := 41) rfl))) (by decide) (backOf (W := 0) (rm7 l Z a0 hw [] z6 b31 ((([] : List Int32) ++ own_enc 4 (z8 - z6))) T30.heap n0 Z30 fq30_0 (Nat.le_trans (own_L 0 _ _ (Nat.le_refl 0 : ([] : List Int32).length ≤ 0)) (by decide : 5 ≤ 16))) hZ (hw _ (List.mem_of_getElem? (i := 41) rfl)) (hw _ (List.mem_of_getElem? (i := 7) rfl)) (by decide) (by decide)) (g := (mkF m 105 #[.val (.int p1), .val (.int p2), .val (.int p3), .val (.int p4), .val (.int p5), .val (.int z6), .val (.int z8), .val (.int z10), .val (.int z12), .val (.int (1 : Int32)), .val (.ref b14), .unset] [(.ref b31), (.int z6)])) rfl (by rw [hml]; rfl) (argsL := [(.int z6), (.ref b31)]) (rest := []) (lenOf pd_6 rfl) rfl (by show 2 * 0 + _ ≤ _; exact Nat.le_of_eq rfl) (hb hby at_105) (fun _ _ => ⟨rfl, rfl, (by decide : 5 + 1 ≤ _), (by decide : 56 + 16 ≤ _)⟩)
    dsimp only [Pt.U, Pt.locs, Pt.cells, Pt.slots] at X32 l32 y32 z32 st32 hQ32
    subst l32 y32 z32
    obtain ⟨b34, rfl, N32q, K32q, s_b34, fq32_0⟩ := hQ32
    have N32 := Fr.app Ng30 N32q
    have g_b34 : n0 ≤ b34 := Nat.le_trans Z30 s_b34
    have ne_b14_b34 : b14 ≠ b34 := Nat.ne_of_lt (Nat.lt_of_lt_of_le fx33.lt s_b34)
    have ne_b31_b34 : b31 ≠ b34 := Nat.ne_of_lt (Nat.lt_of_lt_of_le fq30_0.lt s_b34)
    have Z32 : n0 ≤ T32.heap.size := Nat.le_trans Z30 K32q.1
    obtain ⟨Lg32, Xg32, Ng32⟩ := Stand_gen X32 N32
    refine Run.go st32 ?_
    show Run p e below s 10 136 (Q_rm0 Z p1 p2 p3 p4 p5 h0 n0) (T32.setTop (mkF m 108 #[.val (.int p1), .val (.int p2), .val (.int p3), .val (.int p4), .val (.int p5), .val (.int z6), .val (.int z8), .val (.int z10), .val (.int z12), .val (.int (1 : Int32)), .val (.ref b14), .unset] [(.ref b34)]))
    have hR1 : own_run ((([] : List Int32) ++ own_enc 4 (z8 - z6))) z6 0 0 = [z8] := own_R1 _ _ m0 m1.1
    refine Run.go (fun _ k => XS.astore Xg32.here hx rfl (hb hby at_108) rfl rfl (l' := #[.val (.int p1), .val (.int p2), .val (.int p3), .val (.int p4), .val (.int p5), .val (.int z6), .val (.int z8), .val (.int z10), .val (.int z12), .val (.int (1 : Int32)), .val (.ref b14), .val (.ref b34)]) rfl k) ?_
    show Run p e below s 10 136 (Q_rm0 Z p1 p2 p3 p4 p5 h0 n0) (T32.setTop (mkF m 110 #[.val (.int p1), .val (.int p2), .val (.int p3), .val (.int p4), .val (.int p5), .val (.int z6), .val (.int z8), .val (.int z10), .val (.int z12), .val (.int (1 : Int32)), .val (.ref b14), .val (.ref b34)] []))
    refine Run.go (fun _ k => XS.aload Xg32.here hx rfl (hb hby at_110) rfl rfl k) ?_
    show Run p e below s 10 136 (Q_rm0 Z p1 p2 p3 p4 p5 h0 n0) (T32.setTop (mkF m 112 #[.val (.int p1), .val (.int p2), .val (.int p3), .val (.int p4), .val (.int p5), .val (.int z6), .val (.int z8), .val (.int z10), .val (.int z12), .val (.int (1 : Int32)), .val (.ref b14), .val (.ref b34)] [(.ref b34)]))
    refine Run.go (fun _ k => ary_len Xg32 hx hZ rfl fq32_0 (g := (mkF m 112 #[.val (.int p1), .val (.int p2), .val (.int p3), .val (.int p4), .val (.int p5), .val (.int z6), .val (.int z8), .val (.int z10), .val (.int z12), .val (.int (1 : Int32)), .val (.ref b14), .val (.ref b34)] [(.ref b34)])) rfl rfl (hb hby at_112) (z := (own_run ((([] : List Int32) ++ own_enc 4 (z8 - z6))) z6 0 0).length.toInt32) rfl _ k) ?_
    show Run p e below s 10 136 (Q_rm0 Z p1 p2 p3 p4 p5 h0 n0) (T32.setTop (mkF m 113 #[.val (.int p1), .val (.int p2), .val (.int p3), .val (.int p4), .val (.int p5), .val (.int z6), .val (.int z8), .val (.int z10), .val (.int z12), .val (.int (1 : Int32)), .val (.ref b14), .val (.ref b34)] [(.int (own_run ((([] : List Int32) ++ own_enc 4 (z8 - z6))) z6 0 0).length.toInt32)]))
    refine Run.go (fun _ k => XS.iload Xg32.here hx rfl (hb hby at_113) rfl  k) ?_
    show Run p e below s 10 136 (Q_rm0 Z p1 p2 p3 p4 p5 h0 n0) (T32.setTop (mkF m 115 #[.val (.int p1), .val (.int p2), .val (.int p3), .val (.int p4), .val (.int p5), .val (.int z6), .val (.int z8), .val (.int z10), .val (.int z12), .val (.int (1 : Int32)), .val (.ref b14), .val (.ref b34)] [(.int (1 : Int32)), (.int (own_run ((([] : List Int32) ++ own_enc 4 (z8 - z6))) z6 0 0).length.toInt32)]))
    refine Run.go (fun _ k => XS.icmpYes Xg32.here hx rfl (pc0 := 115) (pc' := 120) rfl (hb hby at_115) rfl (teq (congrArg (fun l : List Int32 => l.length.toInt32) hR1)).1 (by decide) (by decide) k) ?_
    show Run p e below s 10 136 (Q_rm0 Z p1 p2 p3 p4 p5 h0 n0) (T32.setTop (mkF m 120 #[.val (.int p1), .val (.int p2), .val (.int p3), .val (.int p4), .val (.int p5), .val (.int z6), .val (.int z8), .val (.int z10), .val (.int z12), .val (.int (1 : Int32)), .val (.ref b14), .val (.ref b34)] []))
    refine Run.go (fun _ k => XS.iload Xg32.here hx rfl (hb hby at_120) rfl  k) ?_
    show Run p e below s 10 136 (Q_rm0 Z p1 p2 p3 p4 p5 h0 n0) (T32.setTop (mkF m 122 #[.val (.int p1), .val (.int p2), .val (.int p3), .val (.int p4), .val (.int p5), .val (.int z6), .val (.int z8), .val (.int z10), .val (.int z12), .val (.int (1 : Int32)), .val (.ref b14), .val (.ref b34)] [(.int (1 : Int32))]))
    refine Run.go (fun _ k => XS.iconst Xg32.here hx rfl (hb hby at_122) k) ?_
    show Run p e below s 10 136 (Q_rm0 Z p1 p2 p3 p4 p5 h0 n0) (T32.setTop (mkF m 123 #[.val (.int p1), .val (.int p2), .val (.int p3), .val (.int p4), .val (.int p5), .val (.int z6), .val (.int z8), .val (.int z10), .val (.int z12), .val (.int (1 : Int32)), .val (.ref b14), .val (.ref b34)] [(.int (1 : Int32)), (.int (1 : Int32))]))
    refine Run.go (fun _ k => XS.icmpNo Xg32.here hx rfl (hb hby at_123) rfl (flt (by decide)).1 k) ?_
    show Run p e below s 10 136 (Q_rm0 Z p1 p2 p3 p4 p5 h0 n0) (T32.setTop (mkF m 126 #[.val (.int p1), .val (.int p2), .val (.int p3), .val (.int p4), .val (.int p5), .val (.int z6), .val (.int z8), .val (.int z10), .val (.int z12), .val (.int (1 : Int32)), .val (.ref b14), .val (.ref b34)] []))
    refine Run.go (fun _ k => XS.aload Xg32.here hx rfl (hb hby at_126) rfl rfl k) ?_
    show Run p e below s 10 136 (Q_rm0 Z p1 p2 p3 p4 p5 h0 n0) (T32.setTop (mkF m 128 #[.val (.int p1), .val (.int p2), .val (.int p3), .val (.int p4), .val (.int p5), .val (.int z6), .val (.int z8), .val (.int z10), .val (.int z12), .val (.int (1 : Int32)), .val (.ref b14), .val (.ref b34)] [(.ref b34)]))
    refine Run.go (fun _ k => XS.iconst Xg32.here hx rfl (hb hby at_128) k) ?_
    show Run p e below s 10 136 (Q_rm0 Z p1 p2 p3 p4 p5 h0 n0) (T32.setTop (mkF m 129 #[.val (.int p1), .val (.int p2), .val (.int p3), .val (.int p4), .val (.int p5), .val (.int z6), .val (.int z8), .val (.int z10), .val (.int z12), .val (.int (1 : Int32)), .val (.ref b14), .val (.ref b34)] [(.int (0 : Int32)), (.ref b34)]))
    refine Run.go (fun _ k => ary_iget Xg32 hx hZ rfl fq32_0 (j := (0 : Int32)) (by decide) (by rw [hR1]; exact (by decide : (0 : Nat) < 1)) (g := (mkF m 129 #[.val (.int p1), .val (.int p2), .val (.int p3), .val (.int p4), .val (.int p5), .val (.int z6), .val (.int z8), .val (.int z10), .val (.int z12), .val (.int (1 : Int32)), .val (.ref b14), .val (.ref b34)] [(.int (0 : Int32)), (.ref b34)])) rfl rfl (hb hby at_129) (congrArg (fun l : List Int32 => Value.int (l.getD 0 0)) hR1) _ k) ?_
    show Run p e below s 10 136 (Q_rm0 Z p1 p2 p3 p4 p5 h0 n0) (T32.setTop (mkF m 130 #[.val (.int p1), .val (.int p2), .val (.int p3), .val (.int p4), .val (.int p5), .val (.int z6), .val (.int z8), .val (.int z10), .val (.int z12), .val (.int (1 : Int32)), .val (.ref b14), .val (.ref b34)] [(.int z8)]))
    refine Run.go (fun _ k => XS.iload Xg32.here hx rfl (hb hby at_130) rfl  k) ?_
    show Run p e below s 10 136 (Q_rm0 Z p1 p2 p3 p4 p5 h0 n0) (T32.setTop (mkF m 132 #[.val (.int p1), .val (.int p2), .val (.int p3), .val (.int p4), .val (.int p5), .val (.int z6), .val (.int z8), .val (.int z10), .val (.int z12), .val (.int (1 : Int32)), .val (.ref b14), .val (.ref b34)] [(.int z8), (.int z8)]))
    refine Run.go (fun _ k => XS.icmpYes Xg32.here hx rfl (pc0 := 132) (pc' := 137) rfl (hb hby at_132) rfl (teq (rfl : z8 = z8)).1 (by decide) (by decide) k) ?_
    show Run p e below s 10 136 (Q_rm0 Z p1 p2 p3 p4 p5 h0 n0) (T32.setTop (mkF m 137 #[.val (.int p1), .val (.int p2), .val (.int p3), .val (.int p4), .val (.int p5), .val (.int z6), .val (.int z8), .val (.int z10), .val (.int z12), .val (.int (1 : Int32)), .val (.ref b14), .val (.ref b34)] []))
    refine Run.go (fun _ k => XS.iload Xg32.here hx rfl (hb hby at_137) rfl  k) ?_
    show Run p e below s 10 136 (Q_rm0 Z p1 p2 p3 p4 p5 h0 n0) (T32.setTop (mkF m 139 #[.val (.int p1), .val (.int p2), .val (.int p3), .val (.int p4), .val (.int p5), .val (.int z6), .val (.int z8), .val (.int z10), .val (.int z12), .val (.int (1 : Int32)), .val (.ref b14), .val (.ref b34)] [(.int (1 : Int32))]))
    refine Run.go (fun _ k => XS.iconst Xg32.here hx rfl (hb hby at_139) k) ?_
    show Run p e below s 10 136 (Q_rm0 Z p1 p2 p3 p4 p5 h0 n0) (T32.setTop (mkF m 140 #[.val (.int p1), .val (.int p2), .val (.int p3), .val (.int p4), .val (.int p5), .val (.int z6), .val (.int z8), .val (.int z10), .val (.int z12), .val (.int (1 : Int32)), .val (.ref b14), .val (.ref b34)] [(.int (2 : Int32)), (.int (1 : Int32))]))
    refine Run.go (fun _ k => XS.icmpYes Xg32.here hx rfl (pc0 := 140) (pc' := 154) rfl (hb hby at_140) rfl (tlt (by decide)).1 (by decide) (by decide) k) ?_
    show Run p e below s 10 136 (Q_rm0 Z p1 p2 p3 p4 p5 h0 n0) (T32.setTop (mkF m 154 #[.val (.int p1), .val (.int p2), .val (.int p3), .val (.int p4), .val (.int p5), .val (.int z6), .val (.int z8), .val (.int z10), .val (.int z12), .val (.int (1 : Int32)), .val (.ref b14), .val (.ref b34)] []))
    refine Run.go (fun _ k => XS.iload Xg32.here hx rfl (hb hby at_154) rfl  k) ?_
    show Run p e below s 10 136 (Q_rm0 Z p1 p2 p3 p4 p5 h0 n0) (T32.setTop (mkF m 156 #[.val (.int p1), .val (.int p2), .val (.int p3), .val (.int p4), .val (.int p5), .val (.int z6), .val (.int z8), .val (.int z10), .val (.int z12), .val (.int (1 : Int32)), .val (.ref b14), .val (.ref b34)] [(.int (1 : Int32))]))
    refine Run.go (fun _ k => XS.iconst Xg32.here hx rfl (hb hby at_156) k) ?_
    show Run p e below s 10 136 (Q_rm0 Z p1 p2 p3 p4 p5 h0 n0) (T32.setTop (mkF m 157 #[.val (.int p1), .val (.int p2), .val (.int p3), .val (.int p4), .val (.int p5), .val (.int z6), .val (.int z8), .val (.int z10), .val (.int z12), .val (.int (1 : Int32)), .val (.ref b14), .val (.ref b34)] [(.int (3 : Int32)), (.int (1 : Int32))]))
    refine Run.go (fun _ k => XS.icmpYes Xg32.here hx rfl (pc0 := 157) (pc' := 171) rfl (hb hby at_157) rfl (tlt (by decide)).1 (by decide) (by decide) k) ?_
    show Run p e below s 10 136 (Q_rm0 Z p1 p2 p3 p4 p5 h0 n0) (T32.setTop (mkF m 171 #[.val (.int p1), .val (.int p2), .val (.int p3), .val (.int p4), .val (.int p5), .val (.int z6), .val (.int z8), .val (.int z10), .val (.int z12), .val (.int (1 : Int32)), .val (.ref b14), .val (.ref b34)] []))
    refine Run.go (fun _ k => XS.iconst Xg32.here hx rfl (hb hby at_171) k) ?_
    show Run p e below s 10 136 (Q_rm0 Z p1 p2 p3 p4 p5 h0 n0) (T32.setTop (mkF m 172 #[.val (.int p1), .val (.int p2), .val (.int p3), .val (.int p4), .val (.int p5), .val (.int z6), .val (.int z8), .val (.int z10), .val (.int z12), .val (.int (1 : Int32)), .val (.ref b14), .val (.ref b34)] [(.int (1 : Int32))]))
    exact Run.retN (y := 1) Xg32 hx (t := .boolean) Bd.returns (by simp) rfl Bd.notSynchronized (hb hby at_172) (by decide) (by decide) ⟨rfl, Ng32⟩
  · rw [hk21]
    show Run p e below s 10 136 (Q_rm0 Z p1 p2 p3 p4 p5 h0 n0) (T19.setTop (mkF m 56 #[.val (.int p1), .val (.int p2), .val (.int p3), .val (.int p4), .val (.int p5), .val (.int z6), .val (.int z8), .val (.int z10), .val (.int z12), .val (.int (2 : Int32)), .val (.ref b14), .unset] []))
    refine Run.go (fun _ k => XS.iload Xg19.here hx rfl (hb hby at_56) rfl  k) ?_
    show Run p e below s 10 136 (Q_rm0 Z p1 p2 p3 p4 p5 h0 n0) (T19.setTop (mkF m 58 #[.val (.int p1), .val (.int p2), .val (.int p3), .val (.int p4), .val (.int p5), .val (.int z6), .val (.int z8), .val (.int z10), .val (.int z12), .val (.int (2 : Int32)), .val (.ref b14), .unset] [(.int (2 : Int32))]))
    refine Run.go (fun _ k => XS.iconst Xg19.here hx rfl (hb hby at_58) k) ?_
    show Run p e below s 10 136 (Q_rm0 Z p1 p2 p3 p4 p5 h0 n0) (T19.setTop (mkF m 59 #[.val (.int p1), .val (.int p2), .val (.int p3), .val (.int p4), .val (.int p5), .val (.int z6), .val (.int z8), .val (.int z10), .val (.int z12), .val (.int (2 : Int32)), .val (.ref b14), .unset] [(.int (1 : Int32)), (.int (2 : Int32))]))
    refine Run.go (fun _ k => XS.icmpNo Xg19.here hx rfl (hb hby at_59) rfl (flt (by decide)).1 k) ?_
    show Run p e below s 10 136 (Q_rm0 Z p1 p2 p3 p4 p5 h0 n0) (T19.setTop (mkF m 62 #[.val (.int p1), .val (.int p2), .val (.int p3), .val (.int p4), .val (.int p5), .val (.int z6), .val (.int z8), .val (.int z10), .val (.int z12), .val (.int (2 : Int32)), .val (.ref b14), .unset] []))
    refine Run.go (fun _ k => XS.aload Xg19.here hx rfl (hb hby at_62) rfl rfl k) ?_
    show Run p e below s 10 136 (Q_rm0 Z p1 p2 p3 p4 p5 h0 n0) (T19.setTop (mkF m 64 #[.val (.int p1), .val (.int p2), .val (.int p3), .val (.int p4), .val (.int p5), .val (.int z6), .val (.int z8), .val (.int z10), .val (.int z12), .val (.int (2 : Int32)), .val (.ref b14), .unset] [(.ref b14)]))
    refine Run.go (fun _ k => XS.iload Xg19.here hx rfl (hb hby at_64) rfl  k) ?_
    show Run p e below s 10 136 (Q_rm0 Z p1 p2 p3 p4 p5 h0 n0) (T19.setTop (mkF m 66 #[.val (.int p1), .val (.int p2), .val (.int p3), .val (.int p4), .val (.int p5), .val (.int z6), .val (.int z8), .val (.int z10), .val (.int z12), .val (.int (2 : Int32)), .val (.ref b14), .unset] [(.int z8), (.ref b14)]))
    obtain ⟨cq35, kq35, q35a, q35b, q35c⟩ := isOf hZ rfl fq19_0
    obtain ⟨_, _, ⟨T35, L35, k35, n35⟩, -, X35, ⟨Lc35, hQ35, l35, y35, z35⟩, st35⟩ := Xg19.virtualBack hx (y := (⟨"com/example/subjectory/subjectory/index/Postings", "add", "(I)I"⟩ : MethodName)) (z := (⟨"com/example/subjectory/subjectory/index/Postings", "add", "(I)I"⟩ : MethodName)) hown (mvT hZ (hw _ (List.mem_of_getElem? (i := 46) rfl))) (mvT hZ (hw _ (List.mem_of_getElem? (i := 47) rfl))) (notFace_of_selects (args := #[]) (mvT hZ (hw _ (List.mem_of_getElem? (i := 49) rfl)))) (mvT hZ (hw _ (List.mem_of_getElem? (i := 49) rfl))) (mvT hZ (hw _ (List.mem_of_getElem? (i := 48) rfl))) (by decide) (backOf (W := 0) (rm9 l Z a0 hw [] b14 z8 ([] : List Int32) z6 4 T19.heap n0 Z19 g_b14 hP56 (own_sb _ _ m0 m1.1).1 (own_sb _ _ m0 m1.1).2 (Nat.le_trans (Nat.le_refl 0 : ([] : List Int32).length ≤ 0) (by decide : 0 ≤ 10))) hZ (hw _ (List.mem_of_getElem? (i := 50) rfl)) (hw _ (List.mem_of_getElem? (i := 7) rfl)) (by decide) (by decide)) q35a q35c (g := (mkF m 66 #[.val (.int p1), .val (.int p2), .val (.int p3), .val (.int p4), .val (.int p5), .val (.int z6), .val (.int z8), .val (.int z10), .val (.int z12), .val (.int (2 : Int32)), .val (.ref b14), .unset] [(.int z8), (.ref b14)])) rfl (by rw [hml]; rfl) (Steps.refl _) (argsL := [(.int z8)]) (rest := []) (lenOf pd_7 rfl) rfl (by show 2 * 0 + _ ≤ _; exact Nat.le_of_eq rfl) (hb hby at_66) (fun _ _ => ⟨rfl, rfl, (by decide : 2 + 2 ≤ _), (by decide : 8 + 32 ≤ _)⟩)
    dsimp only [Pt.U, Pt.locs, Pt.cells, Pt.slots] at X35 l35 y35 z35 st35 hQ35
    subst l35 y35 z35
    obtain ⟨r36, r37, rfl, N35q, K35q, fq35_0, fq35_1⟩ := hQ35
    have N35 := Fr.app Ng19 N35q
    have Z35 : n0 ≤ T35.heap.size := K35q.1
    obtain ⟨Lg35, Xg35, Ng35⟩ := Stand_gen X35 N35
    refine Run.tr st35 ?_
    show Run p e below s 10 136 (Q_rm0 Z p1 p2 p3 p4 p5 h0 n0) (T35.setTop (mkF m 69 #[.val (.int p1), .val (.int p2), .val (.int p3), .val (.int p4), .val (.int p5), .val (.int z6), .val (.int z8), .val (.int z10), .val (.int z12), .val (.int (2 : Int32)), .val (.ref b14), .unset] [(.int r36)]))
    refine Run.go (fun _ k => XS.pop Xg35.here hx rfl (hb hby at_69) rfl rfl k) ?_
    show Run p e below s 10 136 (Q_rm0 Z p1 p2 p3 p4 p5 h0 n0) (T35.setTop (mkF m 70 #[.val (.int p1), .val (.int p2), .val (.int p3), .val (.int p4), .val (.int p5), .val (.int z6), .val (.int z8), .val (.int z10), .val (.int z12), .val (.int (2 : Int32)), .val (.ref b14), .unset] []))
    refine Run.go (fun _ k => XS.iload Xg35.here hx rfl (hb hby at_70) rfl  k) ?_
    show Run p e below s 10 136 (Q_rm0 Z p1 p2 p3 p4 p5 h0 n0) (T35.setTop (mkF m 72 #[.val (.int p1), .val (.int p2), .val (.int p3), .val (.int p4), .val (.int p5), .val (.int z6), .val (.int z8), .val (.int z10), .val (.int z12), .val (.int (2 : Int32)), .val (.ref b14), .unset] [(.int (2 : Int32))]))
    refine Run.go (fun _ k => XS.iconst Xg35.here hx rfl (hb hby at_72) k) ?_
    show Run p e below s 10 136 (Q_rm0 Z p1 p2 p3 p4 p5 h0 n0) (T35.setTop (mkF m 73 #[.val (.int p1), .val (.int p2), .val (.int p3), .val (.int p4), .val (.int p5), .val (.int z6), .val (.int z8), .val (.int z10), .val (.int z12), .val (.int (2 : Int32)), .val (.ref b14), .unset] [(.int (2 : Int32)), (.int (2 : Int32))]))
    refine Run.go (fun _ k => XS.icmpNo Xg35.here hx rfl (hb hby at_73) rfl (flt (by decide)).1 k) ?_
    show Run p e below s 10 136 (Q_rm0 Z p1 p2 p3 p4 p5 h0 n0) (T35.setTop (mkF m 76 #[.val (.int p1), .val (.int p2), .val (.int p3), .val (.int p4), .val (.int p5), .val (.int z6), .val (.int z8), .val (.int z10), .val (.int z12), .val (.int (2 : Int32)), .val (.ref b14), .unset] []))
    refine Run.go (fun _ k => XS.aload Xg35.here hx rfl (hb hby at_76) rfl rfl k) ?_
    show Run p e below s 10 136 (Q_rm0 Z p1 p2 p3 p4 p5 h0 n0) (T35.setTop (mkF m 78 #[.val (.int p1), .val (.int p2), .val (.int p3), .val (.int p4), .val (.int p5), .val (.int z6), .val (.int z8), .val (.int z10), .val (.int z12), .val (.int (2 : Int32)), .val (.ref b14), .unset] [(.ref b14)]))
    refine Run.go (fun _ k => XS.iload Xg35.here hx rfl (hb hby at_78) rfl  k) ?_
    show Run p e below s 10 136 (Q_rm0 Z p1 p2 p3 p4 p5 h0 n0) (T35.setTop (mkF m 80 #[.val (.int p1), .val (.int p2), .val (.int p3), .val (.int p4), .val (.int p5), .val (.int z6), .val (.int z8), .val (.int z10), .val (.int z12), .val (.int (2 : Int32)), .val (.ref b14), .unset] [(.int z10), (.ref b14)]))
    obtain ⟨cq38, kq38, q38a, q38b, q38c⟩ := isOf hZ rfl fq35_0
    obtain ⟨_, _, ⟨T38, L38, k38, n38⟩, -, X38, ⟨Lc38, hQ38, l38, y38, z38⟩, st38⟩ := Xg35.virtualBack hx (y := (⟨"com/example/subjectory/subjectory/index/Postings", "add", "(I)I"⟩ : MethodName)) (z := (⟨"com/example/subjectory/subjectory/index/Postings", "add", "(I)I"⟩ : MethodName)) hown (mvT hZ (hw _ (List.mem_of_getElem? (i := 46) rfl))) (mvT hZ (hw _ (List.mem_of_getElem? (i := 47) rfl))) (notFace_of_selects (args := #[]) (mvT hZ (hw _ (List.mem_of_getElem? (i := 49) rfl)))) (mvT hZ (hw _ (List.mem_of_getElem? (i := 49) rfl))) (mvT hZ (hw _ (List.mem_of_getElem? (i := 48) rfl))) (by decide) (backOf (W := 0) (rm9 l Z a0 hw [] b14 z10 (([] : List Int32) ++ own_enc 4 (z8 - z6)) z8 r37 T35.heap n0 Z35 g_b14 fq35_1 (own_sb _ _ m1.2 m2.1).1 (own_sb _ _ m1.2 m2.1).2 (Nat.le_trans (own_L 0 _ _ (Nat.le_refl 0 : ([] : List Int32).length ≤ 0)) (by decide : 5 ≤ 10))) hZ (hw _ (List.mem_of_getElem? (i := 50) rfl)) (hw _ (List.mem_of_getElem? (i := 7) rfl)) (by decide) (by decide)) q38a q38c (g := (mkF m 80 #[.val (.int p1), .val (.int p2), .val (.int p3), .val (.int p4), .val (.int p5), .val (.int z6), .val (.int z8), .val (.int z10), .val (.int z12), .val (.int (2 : Int32)), .val (.ref b14), .unset] [(.int z10), (.ref b14)])) rfl (by rw [hml]; rfl) (Steps.refl _) (argsL := [(.int z10)]) (rest := []) (lenOf pd_7 rfl) rfl (by show 2 * 0 + _ ≤ _; exact Nat.le_of_eq rfl) (hb hby at_80) (fun _ _ => ⟨rfl, rfl, (by decide : 4 + 2 ≤ _), (by decide : 40 + 32 ≤ _)⟩)
    dsimp only [Pt.U, Pt.locs, Pt.cells, Pt.slots] at X38 l38 y38 z38 st38 hQ38
    subst l38 y38 z38
    obtain ⟨r39, r40, rfl, N38q, K38q, fq38_0, fq38_1⟩ := hQ38
    have N38 := Fr.app Ng35 N38q
    have Z38 : n0 ≤ T38.heap.size := K38q.1
    obtain ⟨Lg38, Xg38, Ng38⟩ := Stand_gen X38 N38
    refine Run.tr st38 ?_
    show Run p e below s 10 136 (Q_rm0 Z p1 p2 p3 p4 p5 h0 n0) (T38.setTop (mkF m 83 #[.val (.int p1), .val (.int p2), .val (.int p3), .val (.int p4), .val (.int p5), .val (.int z6), .val (.int z8), .val (.int z10), .val (.int z12), .val (.int (2 : Int32)), .val (.ref b14), .unset] [(.int r39)]))
    refine Run.go (fun _ k => XS.pop Xg38.here hx rfl (hb hby at_83) rfl rfl k) ?_
    show Run p e below s 10 136 (Q_rm0 Z p1 p2 p3 p4 p5 h0 n0) (T38.setTop (mkF m 84 #[.val (.int p1), .val (.int p2), .val (.int p3), .val (.int p4), .val (.int p5), .val (.int z6), .val (.int z8), .val (.int z10), .val (.int z12), .val (.int (2 : Int32)), .val (.ref b14), .unset] []))
    refine Run.go (fun _ k => XS.iload Xg38.here hx rfl (hb hby at_84) rfl  k) ?_
    show Run p e below s 10 136 (Q_rm0 Z p1 p2 p3 p4 p5 h0 n0) (T38.setTop (mkF m 86 #[.val (.int p1), .val (.int p2), .val (.int p3), .val (.int p4), .val (.int p5), .val (.int z6), .val (.int z8), .val (.int z10), .val (.int z12), .val (.int (2 : Int32)), .val (.ref b14), .unset] [(.int (2 : Int32))]))
    refine Run.go (fun _ k => XS.iconst Xg38.here hx rfl (hb hby at_86) k) ?_
    show Run p e below s 10 136 (Q_rm0 Z p1 p2 p3 p4 p5 h0 n0) (T38.setTop (mkF m 87 #[.val (.int p1), .val (.int p2), .val (.int p3), .val (.int p4), .val (.int p5), .val (.int z6), .val (.int z8), .val (.int z10), .val (.int z12), .val (.int (2 : Int32)), .val (.ref b14), .unset] [(.int (3 : Int32)), (.int (2 : Int32))]))
    refine Run.go (fun _ k => XS.icmpYes Xg38.here hx rfl (pc0 := 87) (pc' := 98) rfl (hb hby at_87) rfl (tlt (by decide)).1 (by decide) (by decide) k) ?_
    show Run p e below s 10 136 (Q_rm0 Z p1 p2 p3 p4 p5 h0 n0) (T38.setTop (mkF m 98 #[.val (.int p1), .val (.int p2), .val (.int p3), .val (.int p4), .val (.int p5), .val (.int z6), .val (.int z8), .val (.int z10), .val (.int z12), .val (.int (2 : Int32)), .val (.ref b14), .unset] []))
    refine Run.go (fun _ k => XS.iload Xg38.here hx rfl (hb hby at_98) rfl  k) ?_
    show Run p e below s 10 136 (Q_rm0 Z p1 p2 p3 p4 p5 h0 n0) (T38.setTop (mkF m 100 #[.val (.int p1), .val (.int p2), .val (.int p3), .val (.int p4), .val (.int p5), .val (.int z6), .val (.int z8), .val (.int z10), .val (.int z12), .val (.int (2 : Int32)), .val (.ref b14), .unset] [(.int z6)]))
    refine Run.go (fun _ k => XS.aload Xg38.here hx rfl (hb hby at_100) rfl rfl k) ?_
    show Run p e below s 10 136 (Q_rm0 Z p1 p2 p3 p4 p5 h0 n0) (T38.setTop (mkF m 102 #[.val (.int p1), .val (.int p2), .val (.int p3), .val (.int p4), .val (.int p5), .val (.int z6), .val (.int z8), .val (.int z10), .val (.int z12), .val (.int (2 : Int32)), .val (.ref b14), .unset] [(.ref b14), (.int z6)]))
    obtain ⟨cq41, kq41, q41a, q41b, q41c⟩ := isOf hZ rfl fq38_0
    obtain ⟨_, _, ⟨T41, L41, k41, n41⟩, -, X41, ⟨Lc41, hQ41, l41, y41, z41⟩, st41⟩ := Xg38.virtualBack hx (y := (⟨"com/example/subjectory/subjectory/index/Postings", "toValue", "()[B"⟩ : MethodName)) (z := (⟨"com/example/subjectory/subjectory/index/Postings", "toValue", "()[B"⟩ : MethodName)) hown (mvT hZ (hw _ (List.mem_of_getElem? (i := 21) rfl))) (mvT hZ (hw _ (List.mem_of_getElem? (i := 22) rfl))) (notFace_of_selects (args := #[]) (mvT hZ (hw _ (List.mem_of_getElem? (i := 24) rfl)))) (mvT hZ (hw _ (List.mem_of_getElem? (i := 24) rfl))) (mvT hZ (hw _ (List.mem_of_getElem? (i := 23) rfl))) (by decide) (backOf (W := 1) (rm4 l Z a0 hw [] b14 ((([] : List Int32) ++ own_enc 4 (z8 - z6)) ++ own_enc 4 (z10 - z8)) z10 r40 T38.heap n0 Z38 fq38_1) hZ (hw _ (List.mem_of_getElem? (i := 25) rfl)) (hw _ (List.mem_of_getElem? (i := 7) rfl)) (by decide) (by decide)) q41a q41c (g := (mkF m 102 #[.val (.int p1), .val (.int p2), .val (.int p3), .val (.int p4), .val (.int p5), .val (.int z6), .val (.int z8), .val (.int z10), .val (.int z12), .val (.int (2 : Int32)), .val (.ref b14), .unset] [(.ref b14), (.int z6)])) rfl (by rw [hml]; rfl) (Steps.refl _) (argsL := []) (rest := [(.int z6)]) (lenOf pd_5 rfl) rfl (by show 2 * 0 + _ ≤ _; exact Nat.le_of_eq rfl) (hb hby at_102) (fun _ _ => ⟨rfl, rfl, (by decide : 6 + 1 ≤ _), (by decide : 72 + 16 ≤ _)⟩)
    dsimp only [Pt.U, Pt.locs, Pt.cells, Pt.slots] at X41 l41 y41 z41 st41 hQ41
    subst l41 y41 z41
    obtain ⟨b42, rfl, N41q, K41q, s_b42, fq41_0⟩ := hQ41
    have N41 := Fr.app Ng38 N41q
    have g_b42 : n0 ≤ b42 := Nat.le_trans Z38 s_b42
    have ne_b14_b42 : b14 ≠ b42 := Nat.ne_of_lt (Nat.lt_of_lt_of_le fq38_0.lt s_b42)
    have Z41 : n0 ≤ T41.heap.size := Nat.le_trans Z38 K41q.1
    obtain ⟨Lg41, Xg41, Ng41⟩ := Stand_gen X41 N41
    refine Run.tr st41 ?_
    show Run p e below s 10 136 (Q_rm0 Z p1 p2 p3 p4 p5 h0 n0) (T41.setTop (mkF m 105 #[.val (.int p1), .val (.int p2), .val (.int p3), .val (.int p4), .val (.int p5), .val (.int z6), .val (.int z8), .val (.int z10), .val (.int z12), .val (.int (2 : Int32)), .val (.ref b14), .unset] [(.ref b42), (.int z6)]))
    have fx44 := (fq38_0.keep K41q)
    obtain ⟨_, _, ⟨T43, L43, k43, n43⟩, -, X43, ⟨Lc43, hQ43, l43, y43, z43⟩, st43⟩ := Jvm.LawKit.callS Xg41 hx (y := (⟨"com/example/subjectory/subjectory/index/Postings", "ordinals", "(I[B)[I"⟩ : MethodName)) hown (mvT hZ (hw _ (List.mem_of_getElem? (i := 39) rfl))) (mvT hZ (hw _ (List.mem_of_getElem? (i := 40) rfl))) (mvT hZ (hw _ (List.mem_of_getElem? (i := 7) rfl))) (mvT hZ (hw _ (List.mem_of_getElem? (i := 41) rfl))) (by decide) (backOf (W := 0) (rm7 l Z a0 hw [] z6 b42 (((([] : List Int32) ++ own_enc 4 (z8 - z6)) ++ own_enc 4 (z10 - z8))) T41.heap n0 Z41 fq41_0 (Nat.le_trans (own_L 5 _ _ (own_L 0 _ _ (Nat.le_refl 0 : ([] : List Int32).length ≤ 0))) (by decide : 10 ≤ 16))) hZ (hw _ (List.mem_of_getElem? (i := 41) rfl)) (hw _ (List.mem_of_getElem? (i := 7) rfl)) (by decide) (by decide)) (g := (mkF m 105 #[.val (.int p1), .val (.int p2), .val (.int p3), .val (.int p4), .val (.int p5), .val (.int z6), .val (.int z8), .val (.int z10), .val (.int z12), .val (.int (2 : Int32)), .val (.ref b14), .unset] [(.ref b42), (.int z6)])) rfl (by rw [hml]; rfl) (argsL := [(.int z6), (.ref b42)]) (rest := []) (lenOf pd_6 rfl) rfl (by show 2 * 0 + _ ≤ _; exact Nat.le_of_eq rfl) (hb hby at_105) (fun _ _ => ⟨rfl, rfl, (by decide : 7 + 1 ≤ _), (by decide : 88 + 16 ≤ _)⟩)
    dsimp only [Pt.U, Pt.locs, Pt.cells, Pt.slots] at X43 l43 y43 z43 st43 hQ43
    subst l43 y43 z43
    obtain ⟨b45, rfl, N43q, K43q, s_b45, fq43_0⟩ := hQ43
    have N43 := Fr.app Ng41 N43q
    have g_b45 : n0 ≤ b45 := Nat.le_trans Z41 s_b45
    have ne_b14_b45 : b14 ≠ b45 := Nat.ne_of_lt (Nat.lt_of_lt_of_le fx44.lt s_b45)
    have ne_b42_b45 : b42 ≠ b45 := Nat.ne_of_lt (Nat.lt_of_lt_of_le fq41_0.lt s_b45)
    have Z43 : n0 ≤ T43.heap.size := Nat.le_trans Z41 K43q.1
    obtain ⟨Lg43, Xg43, Ng43⟩ := Stand_gen X43 N43
    refine Run.go st43 ?_
    show Run p e below s 10 136 (Q_rm0 Z p1 p2 p3 p4 p5 h0 n0) (T43.setTop (mkF m 108 #[.val (.int p1), .val (.int p2), .val (.int p3), .val (.int p4), .val (.int p5), .val (.int z6), .val (.int z8), .val (.int z10), .val (.int z12), .val (.int (2 : Int32)), .val (.ref b14), .unset] [(.ref b45)]))
    have hR2 : own_run (((([] : List Int32) ++ own_enc 4 (z8 - z6)) ++ own_enc 4 (z10 - z8))) z6 0 0 = [z8, z10] := own_R2 _ _ _ m0 m1.1 m1.2 m2.1
    refine Run.go (fun _ k => XS.astore Xg43.here hx rfl (hb hby at_108) rfl rfl (l' := #[.val (.int p1), .val (.int p2), .val (.int p3), .val (.int p4), .val (.int p5), .val (.int z6), .val (.int z8), .val (.int z10), .val (.int z12), .val (.int (2 : Int32)), .val (.ref b14), .val (.ref b45)]) rfl k) ?_
    show Run p e below s 10 136 (Q_rm0 Z p1 p2 p3 p4 p5 h0 n0) (T43.setTop (mkF m 110 #[.val (.int p1), .val (.int p2), .val (.int p3), .val (.int p4), .val (.int p5), .val (.int z6), .val (.int z8), .val (.int z10), .val (.int z12), .val (.int (2 : Int32)), .val (.ref b14), .val (.ref b45)] []))
    refine Run.go (fun _ k => XS.aload Xg43.here hx rfl (hb hby at_110) rfl rfl k) ?_
    show Run p e below s 10 136 (Q_rm0 Z p1 p2 p3 p4 p5 h0 n0) (T43.setTop (mkF m 112 #[.val (.int p1), .val (.int p2), .val (.int p3), .val (.int p4), .val (.int p5), .val (.int z6), .val (.int z8), .val (.int z10), .val (.int z12), .val (.int (2 : Int32)), .val (.ref b14), .val (.ref b45)] [(.ref b45)]))
    refine Run.go (fun _ k => ary_len Xg43 hx hZ rfl fq43_0 (g := (mkF m 112 #[.val (.int p1), .val (.int p2), .val (.int p3), .val (.int p4), .val (.int p5), .val (.int z6), .val (.int z8), .val (.int z10), .val (.int z12), .val (.int (2 : Int32)), .val (.ref b14), .val (.ref b45)] [(.ref b45)])) rfl rfl (hb hby at_112) (z := (own_run (((([] : List Int32) ++ own_enc 4 (z8 - z6)) ++ own_enc 4 (z10 - z8))) z6 0 0).length.toInt32) rfl _ k) ?_
    show Run p e below s 10 136 (Q_rm0 Z p1 p2 p3 p4 p5 h0 n0) (T43.setTop (mkF m 113 #[.val (.int p1), .val (.int p2), .val (.int p3), .val (.int p4), .val (.int p5), .val (.int z6), .val (.int z8), .val (.int z10), .val (.int z12), .val (.int (2 : Int32)), .val (.ref b14), .val (.ref b45)] [(.int (own_run (((([] : List Int32) ++ own_enc 4 (z8 - z6)) ++ own_enc 4 (z10 - z8))) z6 0 0).length.toInt32)]))
    refine Run.go (fun _ k => XS.iload Xg43.here hx rfl (hb hby at_113) rfl  k) ?_
    show Run p e below s 10 136 (Q_rm0 Z p1 p2 p3 p4 p5 h0 n0) (T43.setTop (mkF m 115 #[.val (.int p1), .val (.int p2), .val (.int p3), .val (.int p4), .val (.int p5), .val (.int z6), .val (.int z8), .val (.int z10), .val (.int z12), .val (.int (2 : Int32)), .val (.ref b14), .val (.ref b45)] [(.int (2 : Int32)), (.int (own_run (((([] : List Int32) ++ own_enc 4 (z8 - z6)) ++ own_enc 4 (z10 - z8))) z6 0 0).length.toInt32)]))
    refine Run.go (fun _ k => XS.icmpYes Xg43.here hx rfl (pc0 := 115) (pc' := 120) rfl (hb hby at_115) rfl (teq (congrArg (fun l : List Int32 => l.length.toInt32) hR2)).1 (by decide) (by decide) k) ?_
    show Run p e below s 10 136 (Q_rm0 Z p1 p2 p3 p4 p5 h0 n0) (T43.setTop (mkF m 120 #[.val (.int p1), .val (.int p2), .val (.int p3), .val (.int p4), .val (.int p5), .val (.int z6), .val (.int z8), .val (.int z10), .val (.int z12), .val (.int (2 : Int32)), .val (.ref b14), .val (.ref b45)] []))
    refine Run.go (fun _ k => XS.iload Xg43.here hx rfl (hb hby at_120) rfl  k) ?_
    show Run p e below s 10 136 (Q_rm0 Z p1 p2 p3 p4 p5 h0 n0) (T43.setTop (mkF m 122 #[.val (.int p1), .val (.int p2), .val (.int p3), .val (.int p4), .val (.int p5), .val (.int z6), .val (.int z8), .val (.int z10), .val (.int z12), .val (.int (2 : Int32)), .val (.ref b14), .val (.ref b45)] [(.int (2 : Int32))]))
    refine Run.go (fun _ k => XS.iconst Xg43.here hx rfl (hb hby at_122) k) ?_
    show Run p e below s 10 136 (Q_rm0 Z p1 p2 p3 p4 p5 h0 n0) (T43.setTop (mkF m 123 #[.val (.int p1), .val (.int p2), .val (.int p3), .val (.int p4), .val (.int p5), .val (.int z6), .val (.int z8), .val (.int z10), .val (.int z12), .val (.int (2 : Int32)), .val (.ref b14), .val (.ref b45)] [(.int (1 : Int32)), (.int (2 : Int32))]))
    refine Run.go (fun _ k => XS.icmpNo Xg43.here hx rfl (hb hby at_123) rfl (flt (by decide)).1 k) ?_
    show Run p e below s 10 136 (Q_rm0 Z p1 p2 p3 p4 p5 h0 n0) (T43.setTop (mkF m 126 #[.val (.int p1), .val (.int p2), .val (.int p3), .val (.int p4), .val (.int p5), .val (.int z6), .val (.int z8), .val (.int z10), .val (.int z12), .val (.int (2 : Int32)), .val (.ref b14), .val (.ref b45)] []))
    refine Run.go (fun _ k => XS.aload Xg43.here hx rfl (hb hby at_126) rfl rfl k) ?_
    show Run p e below s 10 136 (Q_rm0 Z p1 p2 p3 p4 p5 h0 n0) (T43.setTop (mkF m 128 #[.val (.int p1), .val (.int p2), .val (.int p3), .val (.int p4), .val (.int p5), .val (.int z6), .val (.int z8), .val (.int z10), .val (.int z12), .val (.int (2 : Int32)), .val (.ref b14), .val (.ref b45)] [(.ref b45)]))
    refine Run.go (fun _ k => XS.iconst Xg43.here hx rfl (hb hby at_128) k) ?_
    show Run p e below s 10 136 (Q_rm0 Z p1 p2 p3 p4 p5 h0 n0) (T43.setTop (mkF m 129 #[.val (.int p1), .val (.int p2), .val (.int p3), .val (.int p4), .val (.int p5), .val (.int z6), .val (.int z8), .val (.int z10), .val (.int z12), .val (.int (2 : Int32)), .val (.ref b14), .val (.ref b45)] [(.int (0 : Int32)), (.ref b45)]))
    refine Run.go (fun _ k => ary_iget Xg43 hx hZ rfl fq43_0 (j := (0 : Int32)) (by decide) (by rw [hR2]; exact (by decide : (0 : Nat) < 2)) (g := (mkF m 129 #[.val (.int p1), .val (.int p2), .val (.int p3), .val (.int p4), .val (.int p5), .val (.int z6), .val (.int z8), .val (.int z10), .val (.int z12), .val (.int (2 : Int32)), .val (.ref b14), .val (.ref b45)] [(.int (0 : Int32)), (.ref b45)])) rfl rfl (hb hby at_129) (congrArg (fun l : List Int32 => Value.int (l.getD 0 0)) hR2) _ k) ?_
    show Run p e below s 10 136 (Q_rm0 Z p1 p2 p3 p4 p5 h0 n0) (T43.setTop (mkF m 130 #[.val (.int p1), .val (.int p2), .val (.int p3), .val (.int p4), .val (.int p5), .val (.int z6), .val (.int z8), .val (.int z10), .val (.int z12), .val (.int (2 : Int32)), .val (.ref b14), .val (.ref b45)] [(.int z8)]))
    refine Run.go (fun _ k => XS.iload Xg43.here hx rfl (hb hby at_130) rfl  k) ?_
    show Run p e below s 10 136 (Q_rm0 Z p1 p2 p3 p4 p5 h0 n0) (T43.setTop (mkF m 132 #[.val (.int p1), .val (.int p2), .val (.int p3), .val (.int p4), .val (.int p5), .val (.int z6), .val (.int z8), .val (.int z10), .val (.int z12), .val (.int (2 : Int32)), .val (.ref b14), .val (.ref b45)] [(.int z8), (.int z8)]))
    refine Run.go (fun _ k => XS.icmpYes Xg43.here hx rfl (pc0 := 132) (pc' := 137) rfl (hb hby at_132) rfl (teq (rfl : z8 = z8)).1 (by decide) (by decide) k) ?_
    show Run p e below s 10 136 (Q_rm0 Z p1 p2 p3 p4 p5 h0 n0) (T43.setTop (mkF m 137 #[.val (.int p1), .val (.int p2), .val (.int p3), .val (.int p4), .val (.int p5), .val (.int z6), .val (.int z8), .val (.int z10), .val (.int z12), .val (.int (2 : Int32)), .val (.ref b14), .val (.ref b45)] []))
    refine Run.go (fun _ k => XS.iload Xg43.here hx rfl (hb hby at_137) rfl  k) ?_
    show Run p e below s 10 136 (Q_rm0 Z p1 p2 p3 p4 p5 h0 n0) (T43.setTop (mkF m 139 #[.val (.int p1), .val (.int p2), .val (.int p3), .val (.int p4), .val (.int p5), .val (.int z6), .val (.int z8), .val (.int z10), .val (.int z12), .val (.int (2 : Int32)), .val (.ref b14), .val (.ref b45)] [(.int (2 : Int32))]))
    refine Run.go (fun _ k => XS.iconst Xg43.here hx rfl (hb hby at_139) k) ?_
    show Run p e below s 10 136 (Q_rm0 Z p1 p2 p3 p4 p5 h0 n0) (T43.setTop (mkF m 140 #[.val (.int p1), .val (.int p2), .val (.int p3), .val (.int p4), .val (.int p5), .val (.int z6), .val (.int z8), .val (.int z10), .val (.int z12), .val (.int (2 : Int32)), .val (.ref b14), .val (.ref b45)] [(.int (2 : Int32)), (.int (2 : Int32))]))
    refine Run.go (fun _ k => XS.icmpNo Xg43.here hx rfl (hb hby at_140) rfl (flt (by decide)).1 k) ?_
    show Run p e below s 10 136 (Q_rm0 Z p1 p2 p3 p4 p5 h0 n0) (T43.setTop (mkF m 143 #[.val (.int p1), .val (.int p2), .val (.int p3), .val (.int p4), .val (.int p5), .val (.int z6), .val (.int z8), .val (.int z10), .val (.int z12), .val (.int (2 : Int32)), .val (.ref b14), .val (.ref b45)] []))
    refine Run.go (fun _ k => XS.aload Xg43.here hx rfl (hb hby at_143) rfl rfl k) ?_
    show Run p e below s 10 136 (Q_rm0 Z p1 p2 p3 p4 p5 h0 n0) (T43.setTop (mkF m 145 #[.val (.int p1), .val (.int p2), .val (.int p3), .val (.int p4), .val (.int p5), .val (.int z6), .val (.int z8), .val (.int z10), .val (.int z12), .val (.int (2 : Int32)), .val (.ref b14), .val (.ref b45)] [(.ref b45)]))
    refine Run.go (fun _ k => XS.iconst Xg43.here hx rfl (hb hby at_145) k) ?_
    show Run p e below s 10 136 (Q_rm0 Z p1 p2 p3 p4 p5 h0 n0) (T43.setTop (mkF m 146 #[.val (.int p1), .val (.int p2), .val (.int p3), .val (.int p4), .val (.int p5), .val (.int z6), .val (.int z8), .val (.int z10), .val (.int z12), .val (.int (2 : Int32)), .val (.ref b14), .val (.ref b45)] [(.int (1 : Int32)), (.ref b45)]))
    refine Run.go (fun _ k => ary_iget Xg43 hx hZ rfl fq43_0 (j := (1 : Int32)) (by decide) (by rw [hR2]; exact (by decide : (1 : Nat) < 2)) (g := (mkF m 146 #[.val (.int p1), .val (.int p2), .val (.int p3), .val (.int p4), .val (.int p5), .val (.int z6), .val (.int z8), .val (.int z10), .val (.int z12), .val (.int (2 : Int32)), .val (.ref b14), .val (.ref b45)] [(.int (1 : Int32)), (.ref b45)])) rfl rfl (hb hby at_146) (congrArg (fun l : List Int32 => Value.int (l.getD 1 0)) hR2) _ k) ?_
    show Run p e below s 10 136 (Q_rm0 Z p1 p2 p3 p4 p5 h0 n0) (T43.setTop (mkF m 147 #[.val (.int p1), .val (.int p2), .val (.int p3), .val (.int p4), .val (.int p5), .val (.int z6), .val (.int z8), .val (.int z10), .val (.int z12), .val (.int (2 : Int32)), .val (.ref b14), .val (.ref b45)] [(.int z10)]))
    refine Run.go (fun _ k => XS.iload Xg43.here hx rfl (hb hby at_147) rfl  k) ?_
    show Run p e below s 10 136 (Q_rm0 Z p1 p2 p3 p4 p5 h0 n0) (T43.setTop (mkF m 149 #[.val (.int p1), .val (.int p2), .val (.int p3), .val (.int p4), .val (.int p5), .val (.int z6), .val (.int z8), .val (.int z10), .val (.int z12), .val (.int (2 : Int32)), .val (.ref b14), .val (.ref b45)] [(.int z10), (.int z10)]))
    refine Run.go (fun _ k => XS.icmpYes Xg43.here hx rfl (pc0 := 149) (pc' := 154) rfl (hb hby at_149) rfl (teq (rfl : z10 = z10)).1 (by decide) (by decide) k) ?_
    show Run p e below s 10 136 (Q_rm0 Z p1 p2 p3 p4 p5 h0 n0) (T43.setTop (mkF m 154 #[.val (.int p1), .val (.int p2), .val (.int p3), .val (.int p4), .val (.int p5), .val (.int z6), .val (.int z8), .val (.int z10), .val (.int z12), .val (.int (2 : Int32)), .val (.ref b14), .val (.ref b45)] []))
    refine Run.go (fun _ k => XS.iload Xg43.here hx rfl (hb hby at_154) rfl  k) ?_
    show Run p e below s 10 136 (Q_rm0 Z p1 p2 p3 p4 p5 h0 n0) (T43.setTop (mkF m 156 #[.val (.int p1), .val (.int p2), .val (.int p3), .val (.int p4), .val (.int p5), .val (.int z6), .val (.int z8), .val (.int z10), .val (.int z12), .val (.int (2 : Int32)), .val (.ref b14), .val (.ref b45)] [(.int (2 : Int32))]))
    refine Run.go (fun _ k => XS.iconst Xg43.here hx rfl (hb hby at_156) k) ?_
    show Run p e below s 10 136 (Q_rm0 Z p1 p2 p3 p4 p5 h0 n0) (T43.setTop (mkF m 157 #[.val (.int p1), .val (.int p2), .val (.int p3), .val (.int p4), .val (.int p5), .val (.int z6), .val (.int z8), .val (.int z10), .val (.int z12), .val (.int (2 : Int32)), .val (.ref b14), .val (.ref b45)] [(.int (3 : Int32)), (.int (2 : Int32))]))
    refine Run.go (fun _ k => XS.icmpYes Xg43.here hx rfl (pc0 := 157) (pc' := 171) rfl (hb hby at_157) rfl (tlt (by decide)).1 (by decide) (by decide) k) ?_
    show Run p e below s 10 136 (Q_rm0 Z p1 p2 p3 p4 p5 h0 n0) (T43.setTop (mkF m 171 #[.val (.int p1), .val (.int p2), .val (.int p3), .val (.int p4), .val (.int p5), .val (.int z6), .val (.int z8), .val (.int z10), .val (.int z12), .val (.int (2 : Int32)), .val (.ref b14), .val (.ref b45)] []))
    refine Run.go (fun _ k => XS.iconst Xg43.here hx rfl (hb hby at_171) k) ?_
    show Run p e below s 10 136 (Q_rm0 Z p1 p2 p3 p4 p5 h0 n0) (T43.setTop (mkF m 172 #[.val (.int p1), .val (.int p2), .val (.int p3), .val (.int p4), .val (.int p5), .val (.int z6), .val (.int z8), .val (.int z10), .val (.int z12), .val (.int (2 : Int32)), .val (.ref b14), .val (.ref b45)] [(.int (1 : Int32))]))
    exact Run.retN (y := 1) Xg43 hx (t := .boolean) Bd.returns (by simp) rfl Bd.notSynchronized (hb hby at_172) (by decide) (by decide) ⟨rfl, Ng43⟩
  · rw [hk21]
    show Run p e below s 10 136 (Q_rm0 Z p1 p2 p3 p4 p5 h0 n0) (T19.setTop (mkF m 56 #[.val (.int p1), .val (.int p2), .val (.int p3), .val (.int p4), .val (.int p5), .val (.int z6), .val (.int z8), .val (.int z10), .val (.int z12), .val (.int (3 : Int32)), .val (.ref b14), .unset] []))
    refine Run.go (fun _ k => XS.iload Xg19.here hx rfl (hb hby at_56) rfl  k) ?_
    show Run p e below s 10 136 (Q_rm0 Z p1 p2 p3 p4 p5 h0 n0) (T19.setTop (mkF m 58 #[.val (.int p1), .val (.int p2), .val (.int p3), .val (.int p4), .val (.int p5), .val (.int z6), .val (.int z8), .val (.int z10), .val (.int z12), .val (.int (3 : Int32)), .val (.ref b14), .unset] [(.int (3 : Int32))]))
    refine Run.go (fun _ k => XS.iconst Xg19.here hx rfl (hb hby at_58) k) ?_
    show Run p e below s 10 136 (Q_rm0 Z p1 p2 p3 p4 p5 h0 n0) (T19.setTop (mkF m 59 #[.val (.int p1), .val (.int p2), .val (.int p3), .val (.int p4), .val (.int p5), .val (.int z6), .val (.int z8), .val (.int z10), .val (.int z12), .val (.int (3 : Int32)), .val (.ref b14), .unset] [(.int (1 : Int32)), (.int (3 : Int32))]))
    refine Run.go (fun _ k => XS.icmpNo Xg19.here hx rfl (hb hby at_59) rfl (flt (by decide)).1 k) ?_
    show Run p e below s 10 136 (Q_rm0 Z p1 p2 p3 p4 p5 h0 n0) (T19.setTop (mkF m 62 #[.val (.int p1), .val (.int p2), .val (.int p3), .val (.int p4), .val (.int p5), .val (.int z6), .val (.int z8), .val (.int z10), .val (.int z12), .val (.int (3 : Int32)), .val (.ref b14), .unset] []))
    refine Run.go (fun _ k => XS.aload Xg19.here hx rfl (hb hby at_62) rfl rfl k) ?_
    show Run p e below s 10 136 (Q_rm0 Z p1 p2 p3 p4 p5 h0 n0) (T19.setTop (mkF m 64 #[.val (.int p1), .val (.int p2), .val (.int p3), .val (.int p4), .val (.int p5), .val (.int z6), .val (.int z8), .val (.int z10), .val (.int z12), .val (.int (3 : Int32)), .val (.ref b14), .unset] [(.ref b14)]))
    refine Run.go (fun _ k => XS.iload Xg19.here hx rfl (hb hby at_64) rfl  k) ?_
    show Run p e below s 10 136 (Q_rm0 Z p1 p2 p3 p4 p5 h0 n0) (T19.setTop (mkF m 66 #[.val (.int p1), .val (.int p2), .val (.int p3), .val (.int p4), .val (.int p5), .val (.int z6), .val (.int z8), .val (.int z10), .val (.int z12), .val (.int (3 : Int32)), .val (.ref b14), .unset] [(.int z8), (.ref b14)]))
    obtain ⟨cq46, kq46, q46a, q46b, q46c⟩ := isOf hZ rfl fq19_0
    obtain ⟨_, _, ⟨T46, L46, k46, n46⟩, -, X46, ⟨Lc46, hQ46, l46, y46, z46⟩, st46⟩ := Xg19.virtualBack hx (y := (⟨"com/example/subjectory/subjectory/index/Postings", "add", "(I)I"⟩ : MethodName)) (z := (⟨"com/example/subjectory/subjectory/index/Postings", "add", "(I)I"⟩ : MethodName)) hown (mvT hZ (hw _ (List.mem_of_getElem? (i := 46) rfl))) (mvT hZ (hw _ (List.mem_of_getElem? (i := 47) rfl))) (notFace_of_selects (args := #[]) (mvT hZ (hw _ (List.mem_of_getElem? (i := 49) rfl)))) (mvT hZ (hw _ (List.mem_of_getElem? (i := 49) rfl))) (mvT hZ (hw _ (List.mem_of_getElem? (i := 48) rfl))) (by decide) (backOf (W := 0) (rm9 l Z a0 hw [] b14 z8 ([] : List Int32) z6 4 T19.heap n0 Z19 g_b14 hP56 (own_sb _ _ m0 m1.1).1 (own_sb _ _ m0 m1.1).2 (Nat.le_trans (Nat.le_refl 0 : ([] : List Int32).length ≤ 0) (by decide : 0 ≤ 10))) hZ (hw _ (List.mem_of_getElem? (i := 50) rfl)) (hw _ (List.mem_of_getElem? (i := 7) rfl)) (by decide) (by decide)) q46a q46c (g := (mkF m 66 #[.val (.int p1), .val (.int p2), .val (.int p3), .val (.int p4), .val (.int p5), .val (.int z6), .val (.int z8), .val (.int z10), .val (.int z12), .val (.int (3 : Int32)), .val (.ref b14), .unset] [(.int z8), (.ref b14)])) rfl (by rw [hml]; rfl) (Steps.refl _) (argsL := [(.int z8)]) (rest := []) (lenOf pd_7 rfl) rfl (by show 2 * 0 + _ ≤ _; exact Nat.le_of_eq rfl) (hb hby at_66) (fun _ _ => ⟨rfl, rfl, (by decide : 2 + 2 ≤ _), (by decide : 8 + 32 ≤ _)⟩)
    dsimp only [Pt.U, Pt.locs, Pt.cells, Pt.slots] at X46 l46 y46 z46 st46 hQ46
    subst l46 y46 z46
    obtain ⟨r47, r48, rfl, N46q, K46q, fq46_0, fq46_1⟩ := hQ46
    have N46 := Fr.app Ng19 N46q
    have Z46 : n0 ≤ T46.heap.size := K46q.1
    obtain ⟨Lg46, Xg46, Ng46⟩ := Stand_gen X46 N46
    refine Run.tr st46 ?_
    show Run p e below s 10 136 (Q_rm0 Z p1 p2 p3 p4 p5 h0 n0) (T46.setTop (mkF m 69 #[.val (.int p1), .val (.int p2), .val (.int p3), .val (.int p4), .val (.int p5), .val (.int z6), .val (.int z8), .val (.int z10), .val (.int z12), .val (.int (3 : Int32)), .val (.ref b14), .unset] [(.int r47)]))
    refine Run.go (fun _ k => XS.pop Xg46.here hx rfl (hb hby at_69) rfl rfl k) ?_
    show Run p e below s 10 136 (Q_rm0 Z p1 p2 p3 p4 p5 h0 n0) (T46.setTop (mkF m 70 #[.val (.int p1), .val (.int p2), .val (.int p3), .val (.int p4), .val (.int p5), .val (.int z6), .val (.int z8), .val (.int z10), .val (.int z12), .val (.int (3 : Int32)), .val (.ref b14), .unset] []))
    refine Run.go (fun _ k => XS.iload Xg46.here hx rfl (hb hby at_70) rfl  k) ?_
    show Run p e below s 10 136 (Q_rm0 Z p1 p2 p3 p4 p5 h0 n0) (T46.setTop (mkF m 72 #[.val (.int p1), .val (.int p2), .val (.int p3), .val (.int p4), .val (.int p5), .val (.int z6), .val (.int z8), .val (.int z10), .val (.int z12), .val (.int (3 : Int32)), .val (.ref b14), .unset] [(.int (3 : Int32))]))
    refine Run.go (fun _ k => XS.iconst Xg46.here hx rfl (hb hby at_72) k) ?_
    show Run p e below s 10 136 (Q_rm0 Z p1 p2 p3 p4 p5 h0 n0) (T46.setTop (mkF m 73 #[.val (.int p1), .val (.int p2), .val (.int p3), .val (.int p4), .val (.int p5), .val (.int z6), .val (.int z8), .val (.int z10), .val (.int z12), .val (.int (3 : Int32)), .val (.ref b14), .unset] [(.int (2 : Int32)), (.int (3 : Int32))]))
    refine Run.go (fun _ k => XS.icmpNo Xg46.here hx rfl (hb hby at_73) rfl (flt (by decide)).1 k) ?_
    show Run p e below s 10 136 (Q_rm0 Z p1 p2 p3 p4 p5 h0 n0) (T46.setTop (mkF m 76 #[.val (.int p1), .val (.int p2), .val (.int p3), .val (.int p4), .val (.int p5), .val (.int z6), .val (.int z8), .val (.int z10), .val (.int z12), .val (.int (3 : Int32)), .val (.ref b14), .unset] []))
    refine Run.go (fun _ k => XS.aload Xg46.here hx rfl (hb hby at_76) rfl rfl k) ?_
    show Run p e below s 10 136 (Q_rm0 Z p1 p2 p3 p4 p5 h0 n0) (T46.setTop (mkF m 78 #[.val (.int p1), .val (.int p2), .val (.int p3), .val (.int p4), .val (.int p5), .val (.int z6), .val (.int z8), .val (.int z10), .val (.int z12), .val (.int (3 : Int32)), .val (.ref b14), .unset] [(.ref b14)]))
    refine Run.go (fun _ k => XS.iload Xg46.here hx rfl (hb hby at_78) rfl  k) ?_
    show Run p e below s 10 136 (Q_rm0 Z p1 p2 p3 p4 p5 h0 n0) (T46.setTop (mkF m 80 #[.val (.int p1), .val (.int p2), .val (.int p3), .val (.int p4), .val (.int p5), .val (.int z6), .val (.int z8), .val (.int z10), .val (.int z12), .val (.int (3 : Int32)), .val (.ref b14), .unset] [(.int z10), (.ref b14)]))
    obtain ⟨cq49, kq49, q49a, q49b, q49c⟩ := isOf hZ rfl fq46_0
    obtain ⟨_, _, ⟨T49, L49, k49, n49⟩, -, X49, ⟨Lc49, hQ49, l49, y49, z49⟩, st49⟩ := Xg46.virtualBack hx (y := (⟨"com/example/subjectory/subjectory/index/Postings", "add", "(I)I"⟩ : MethodName)) (z := (⟨"com/example/subjectory/subjectory/index/Postings", "add", "(I)I"⟩ : MethodName)) hown (mvT hZ (hw _ (List.mem_of_getElem? (i := 46) rfl))) (mvT hZ (hw _ (List.mem_of_getElem? (i := 47) rfl))) (notFace_of_selects (args := #[]) (mvT hZ (hw _ (List.mem_of_getElem? (i := 49) rfl)))) (mvT hZ (hw _ (List.mem_of_getElem? (i := 49) rfl))) (mvT hZ (hw _ (List.mem_of_getElem? (i := 48) rfl))) (by decide) (backOf (W := 0) (rm9 l Z a0 hw [] b14 z10 (([] : List Int32) ++ own_enc 4 (z8 - z6)) z8 r48 T46.heap n0 Z46 g_b14 fq46_1 (own_sb _ _ m1.2 m2.1).1 (own_sb _ _ m1.2 m2.1).2 (Nat.le_trans (own_L 0 _ _ (Nat.le_refl 0 : ([] : List Int32).length ≤ 0)) (by decide : 5 ≤ 10))) hZ (hw _ (List.mem_of_getElem? (i := 50) rfl)) (hw _ (List.mem_of_getElem? (i := 7) rfl)) (by decide) (by decide)) q49a q49c (g := (mkF m 80 #[.val (.int p1), .val (.int p2), .val (.int p3), .val (.int p4), .val (.int p5), .val (.int z6), .val (.int z8), .val (.int z10), .val (.int z12), .val (.int (3 : Int32)), .val (.ref b14), .unset] [(.int z10), (.ref b14)])) rfl (by rw [hml]; rfl) (Steps.refl _) (argsL := [(.int z10)]) (rest := []) (lenOf pd_7 rfl) rfl (by show 2 * 0 + _ ≤ _; exact Nat.le_of_eq rfl) (hb hby at_80) (fun _ _ => ⟨rfl, rfl, (by decide : 4 + 2 ≤ _), (by decide : 40 + 32 ≤ _)⟩)
    dsimp only [Pt.U, Pt.locs, Pt.cells, Pt.slots] at X49 l49 y49 z49 st49 hQ49
    subst l49 y49 z49
    obtain ⟨r50, r51, rfl, N49q, K49q, fq49_0, fq49_1⟩ := hQ49
    have N49 := Fr.app Ng46 N49q
    have Z49 : n0 ≤ T49.heap.size := K49q.1
    obtain ⟨Lg49, Xg49, Ng49⟩ := Stand_gen X49 N49
    refine Run.tr st49 ?_
    show Run p e below s 10 136 (Q_rm0 Z p1 p2 p3 p4 p5 h0 n0) (T49.setTop (mkF m 83 #[.val (.int p1), .val (.int p2), .val (.int p3), .val (.int p4), .val (.int p5), .val (.int z6), .val (.int z8), .val (.int z10), .val (.int z12), .val (.int (3 : Int32)), .val (.ref b14), .unset] [(.int r50)]))
    refine Run.go (fun _ k => XS.pop Xg49.here hx rfl (hb hby at_83) rfl rfl k) ?_
    show Run p e below s 10 136 (Q_rm0 Z p1 p2 p3 p4 p5 h0 n0) (T49.setTop (mkF m 84 #[.val (.int p1), .val (.int p2), .val (.int p3), .val (.int p4), .val (.int p5), .val (.int z6), .val (.int z8), .val (.int z10), .val (.int z12), .val (.int (3 : Int32)), .val (.ref b14), .unset] []))
    refine Run.go (fun _ k => XS.iload Xg49.here hx rfl (hb hby at_84) rfl  k) ?_
    show Run p e below s 10 136 (Q_rm0 Z p1 p2 p3 p4 p5 h0 n0) (T49.setTop (mkF m 86 #[.val (.int p1), .val (.int p2), .val (.int p3), .val (.int p4), .val (.int p5), .val (.int z6), .val (.int z8), .val (.int z10), .val (.int z12), .val (.int (3 : Int32)), .val (.ref b14), .unset] [(.int (3 : Int32))]))
    refine Run.go (fun _ k => XS.iconst Xg49.here hx rfl (hb hby at_86) k) ?_
    show Run p e below s 10 136 (Q_rm0 Z p1 p2 p3 p4 p5 h0 n0) (T49.setTop (mkF m 87 #[.val (.int p1), .val (.int p2), .val (.int p3), .val (.int p4), .val (.int p5), .val (.int z6), .val (.int z8), .val (.int z10), .val (.int z12), .val (.int (3 : Int32)), .val (.ref b14), .unset] [(.int (3 : Int32)), (.int (3 : Int32))]))
    refine Run.go (fun _ k => XS.icmpNo Xg49.here hx rfl (hb hby at_87) rfl (flt (by decide)).1 k) ?_
    show Run p e below s 10 136 (Q_rm0 Z p1 p2 p3 p4 p5 h0 n0) (T49.setTop (mkF m 90 #[.val (.int p1), .val (.int p2), .val (.int p3), .val (.int p4), .val (.int p5), .val (.int z6), .val (.int z8), .val (.int z10), .val (.int z12), .val (.int (3 : Int32)), .val (.ref b14), .unset] []))
    refine Run.go (fun _ k => XS.aload Xg49.here hx rfl (hb hby at_90) rfl rfl k) ?_
    show Run p e below s 10 136 (Q_rm0 Z p1 p2 p3 p4 p5 h0 n0) (T49.setTop (mkF m 92 #[.val (.int p1), .val (.int p2), .val (.int p3), .val (.int p4), .val (.int p5), .val (.int z6), .val (.int z8), .val (.int z10), .val (.int z12), .val (.int (3 : Int32)), .val (.ref b14), .unset] [(.ref b14)]))
    refine Run.go (fun _ k => XS.iload Xg49.here hx rfl (hb hby at_92) rfl  k) ?_
    show Run p e below s 10 136 (Q_rm0 Z p1 p2 p3 p4 p5 h0 n0) (T49.setTop (mkF m 94 #[.val (.int p1), .val (.int p2), .val (.int p3), .val (.int p4), .val (.int p5), .val (.int z6), .val (.int z8), .val (.int z10), .val (.int z12), .val (.int (3 : Int32)), .val (.ref b14), .unset] [(.int z12), (.ref b14)]))
    obtain ⟨cq52, kq52, q52a, q52b, q52c⟩ := isOf hZ rfl fq49_0
    obtain ⟨_, _, ⟨T52, L52, k52, n52⟩, -, X52, ⟨Lc52, hQ52, l52, y52, z52⟩, st52⟩ := Xg49.virtualBack hx (y := (⟨"com/example/subjectory/subjectory/index/Postings", "add", "(I)I"⟩ : MethodName)) (z := (⟨"com/example/subjectory/subjectory/index/Postings", "add", "(I)I"⟩ : MethodName)) hown (mvT hZ (hw _ (List.mem_of_getElem? (i := 46) rfl))) (mvT hZ (hw _ (List.mem_of_getElem? (i := 47) rfl))) (notFace_of_selects (args := #[]) (mvT hZ (hw _ (List.mem_of_getElem? (i := 49) rfl)))) (mvT hZ (hw _ (List.mem_of_getElem? (i := 49) rfl))) (mvT hZ (hw _ (List.mem_of_getElem? (i := 48) rfl))) (by decide) (backOf (W := 0) (rm9 l Z a0 hw [] b14 z12 ((([] : List Int32) ++ own_enc 4 (z8 - z6)) ++ own_enc 4 (z10 - z8)) z10 r51 T49.heap n0 Z49 g_b14 fq49_1 (own_sb _ _ m2.2 m3.1).1 (own_sb _ _ m2.2 m3.1).2 (Nat.le_trans (own_L 5 _ _ (own_L 0 _ _ (Nat.le_refl 0 : ([] : List Int32).length ≤ 0))) (by decide : 10 ≤ 10))) hZ (hw _ (List.mem_of_getElem? (i := 50) rfl)) (hw _ (List.mem_of_getElem? (i := 7) rfl)) (by decide) (by decide)) q52a q52c (g := (mkF m 94 #[.val (.int p1), .val (.int p2), .val (.int p3), .val (.int p4), .val (.int p5), .val (.int z6), .val (.int z8), .val (.int z10), .val (.int z12), .val (.int (3 : Int32)), .val (.ref b14), .unset] [(.int z12), (.ref b14)])) rfl (by rw [hml]; rfl) (Steps.refl _) (argsL := [(.int z12)]) (rest := []) (lenOf pd_7 rfl) rfl (by show 2 * 0 + _ ≤ _; exact Nat.le_of_eq rfl) (hb hby at_94) (fun _ _ => ⟨rfl, rfl, (by decide : 6 + 2 ≤ _), (by decide : 72 + 32 ≤ _)⟩)
    dsimp only [Pt.U, Pt.locs, Pt.cells, Pt.slots] at X52 l52 y52 z52 st52 hQ52
    subst l52 y52 z52
    obtain ⟨r53, r54, rfl, N52q, K52q, fq52_0, fq52_1⟩ := hQ52
    have N52 := Fr.app Ng49 N52q
    have Z52 : n0 ≤ T52.heap.size := K52q.1
    obtain ⟨Lg52, Xg52, Ng52⟩ := Stand_gen X52 N52
    refine Run.tr st52 ?_
    show Run p e below s 10 136 (Q_rm0 Z p1 p2 p3 p4 p5 h0 n0) (T52.setTop (mkF m 97 #[.val (.int p1), .val (.int p2), .val (.int p3), .val (.int p4), .val (.int p5), .val (.int z6), .val (.int z8), .val (.int z10), .val (.int z12), .val (.int (3 : Int32)), .val (.ref b14), .unset] [(.int r53)]))
    refine Run.go (fun _ k => XS.pop Xg52.here hx rfl (hb hby at_97) rfl rfl k) ?_
    show Run p e below s 10 136 (Q_rm0 Z p1 p2 p3 p4 p5 h0 n0) (T52.setTop (mkF m 98 #[.val (.int p1), .val (.int p2), .val (.int p3), .val (.int p4), .val (.int p5), .val (.int z6), .val (.int z8), .val (.int z10), .val (.int z12), .val (.int (3 : Int32)), .val (.ref b14), .unset] []))
    refine Run.go (fun _ k => XS.iload Xg52.here hx rfl (hb hby at_98) rfl  k) ?_
    show Run p e below s 10 136 (Q_rm0 Z p1 p2 p3 p4 p5 h0 n0) (T52.setTop (mkF m 100 #[.val (.int p1), .val (.int p2), .val (.int p3), .val (.int p4), .val (.int p5), .val (.int z6), .val (.int z8), .val (.int z10), .val (.int z12), .val (.int (3 : Int32)), .val (.ref b14), .unset] [(.int z6)]))
    refine Run.go (fun _ k => XS.aload Xg52.here hx rfl (hb hby at_100) rfl rfl k) ?_
    show Run p e below s 10 136 (Q_rm0 Z p1 p2 p3 p4 p5 h0 n0) (T52.setTop (mkF m 102 #[.val (.int p1), .val (.int p2), .val (.int p3), .val (.int p4), .val (.int p5), .val (.int z6), .val (.int z8), .val (.int z10), .val (.int z12), .val (.int (3 : Int32)), .val (.ref b14), .unset] [(.ref b14), (.int z6)]))
    obtain ⟨cq55, kq55, q55a, q55b, q55c⟩ := isOf hZ rfl fq52_0
    obtain ⟨_, _, ⟨T55, L55, k55, n55⟩, -, X55, ⟨Lc55, hQ55, l55, y55, z55⟩, st55⟩ := Xg52.virtualBack hx (y := (⟨"com/example/subjectory/subjectory/index/Postings", "toValue", "()[B"⟩ : MethodName)) (z := (⟨"com/example/subjectory/subjectory/index/Postings", "toValue", "()[B"⟩ : MethodName)) hown (mvT hZ (hw _ (List.mem_of_getElem? (i := 21) rfl))) (mvT hZ (hw _ (List.mem_of_getElem? (i := 22) rfl))) (notFace_of_selects (args := #[]) (mvT hZ (hw _ (List.mem_of_getElem? (i := 24) rfl)))) (mvT hZ (hw _ (List.mem_of_getElem? (i := 24) rfl))) (mvT hZ (hw _ (List.mem_of_getElem? (i := 23) rfl))) (by decide) (backOf (W := 1) (rm4 l Z a0 hw [] b14 (((([] : List Int32) ++ own_enc 4 (z8 - z6)) ++ own_enc 4 (z10 - z8)) ++ own_enc 4 (z12 - z10)) z12 r54 T52.heap n0 Z52 fq52_1) hZ (hw _ (List.mem_of_getElem? (i := 25) rfl)) (hw _ (List.mem_of_getElem? (i := 7) rfl)) (by decide) (by decide)) q55a q55c (g := (mkF m 102 #[.val (.int p1), .val (.int p2), .val (.int p3), .val (.int p4), .val (.int p5), .val (.int z6), .val (.int z8), .val (.int z10), .val (.int z12), .val (.int (3 : Int32)), .val (.ref b14), .unset] [(.ref b14), (.int z6)])) rfl (by rw [hml]; rfl) (Steps.refl _) (argsL := []) (rest := [(.int z6)]) (lenOf pd_5 rfl) rfl (by show 2 * 0 + _ ≤ _; exact Nat.le_of_eq rfl) (hb hby at_102) (fun _ _ => ⟨rfl, rfl, (by decide : 8 + 1 ≤ _), (by decide : 104 + 16 ≤ _)⟩)
    dsimp only [Pt.U, Pt.locs, Pt.cells, Pt.slots] at X55 l55 y55 z55 st55 hQ55
    subst l55 y55 z55
    obtain ⟨b56, rfl, N55q, K55q, s_b56, fq55_0⟩ := hQ55
    have N55 := Fr.app Ng52 N55q
    have g_b56 : n0 ≤ b56 := Nat.le_trans Z52 s_b56
    have ne_b14_b56 : b14 ≠ b56 := Nat.ne_of_lt (Nat.lt_of_lt_of_le fq52_0.lt s_b56)
    have Z55 : n0 ≤ T55.heap.size := Nat.le_trans Z52 K55q.1
    obtain ⟨Lg55, Xg55, Ng55⟩ := Stand_gen X55 N55
    refine Run.tr st55 ?_
    show Run p e below s 10 136 (Q_rm0 Z p1 p2 p3 p4 p5 h0 n0) (T55.setTop (mkF m 105 #[.val (.int p1), .val (.int p2), .val (.int p3), .val (.int p4), .val (.int p5), .val (.int z6), .val (.int z8), .val (.int z10), .val (.int z12), .val (.int (3 : Int32)), .val (.ref b14), .unset] [(.ref b56), (.int z6)]))
    have fx58 := (fq52_0.keep K55q)
    obtain ⟨_, _, ⟨T57, L57, k57, n57⟩, -, X57, ⟨Lc57, hQ57, l57, y57, z57⟩, st57⟩ := Jvm.LawKit.callS Xg55 hx (y := (⟨"com/example/subjectory/subjectory/index/Postings", "ordinals", "(I[B)[I"⟩ : MethodName)) hown (mvT hZ (hw _ (List.mem_of_getElem? (i := 39) rfl))) (mvT hZ (hw _ (List.mem_of_getElem? (i := 40) rfl))) (mvT hZ (hw _ (List.mem_of_getElem? (i := 7) rfl))) (mvT hZ (hw _ (List.mem_of_getElem? (i := 41) rfl))) (by decide) (backOf (W := 0) (rm7 l Z a0 hw [] z6 b56 ((((([] : List Int32) ++ own_enc 4 (z8 - z6)) ++ own_enc 4 (z10 - z8)) ++ own_enc 4 (z12 - z10))) T55.heap n0 Z55 fq55_0 (Nat.le_trans (own_L 10 _ _ (own_L 5 _ _ (own_L 0 _ _ (Nat.le_refl 0 : ([] : List Int32).length ≤ 0)))) (by decide : 15 ≤ 16))) hZ (hw _ (List.mem_of_getElem? (i := 41) rfl)) (hw _ (List.mem_of_getElem? (i := 7) rfl)) (by decide) (by decide)) (g := (mkF m 105 #[.val (.int p1), .val (.int p2), .val (.int p3), .val (.int p4), .val (.int p5), .val (.int z6), .val (.int z8), .val (.int z10), .val (.int z12), .val (.int (3 : Int32)), .val (.ref b14), .unset] [(.ref b56), (.int z6)])) rfl (by rw [hml]; rfl) (argsL := [(.int z6), (.ref b56)]) (rest := []) (lenOf pd_6 rfl) rfl (by show 2 * 0 + _ ≤ _; exact Nat.le_of_eq rfl) (hb hby at_105) (fun _ _ => ⟨rfl, rfl, (by decide : 9 + 1 ≤ _), (by decide : 120 + 16 ≤ _)⟩)
    dsimp only [Pt.U, Pt.locs, Pt.cells, Pt.slots] at X57 l57 y57 z57 st57 hQ57
    subst l57 y57 z57
    obtain ⟨b59, rfl, N57q, K57q, s_b59, fq57_0⟩ := hQ57
    have N57 := Fr.app Ng55 N57q
    have g_b59 : n0 ≤ b59 := Nat.le_trans Z55 s_b59
    have ne_b14_b59 : b14 ≠ b59 := Nat.ne_of_lt (Nat.lt_of_lt_of_le fx58.lt s_b59)
    have ne_b56_b59 : b56 ≠ b59 := Nat.ne_of_lt (Nat.lt_of_lt_of_le fq55_0.lt s_b59)
    have Z57 : n0 ≤ T57.heap.size := Nat.le_trans Z55 K57q.1
    obtain ⟨Lg57, Xg57, Ng57⟩ := Stand_gen X57 N57
    refine Run.go st57 ?_
    show Run p e below s 10 136 (Q_rm0 Z p1 p2 p3 p4 p5 h0 n0) (T57.setTop (mkF m 108 #[.val (.int p1), .val (.int p2), .val (.int p3), .val (.int p4), .val (.int p5), .val (.int z6), .val (.int z8), .val (.int z10), .val (.int z12), .val (.int (3 : Int32)), .val (.ref b14), .unset] [(.ref b59)]))
    have hR3 : own_run ((((([] : List Int32) ++ own_enc 4 (z8 - z6)) ++ own_enc 4 (z10 - z8)) ++ own_enc 4 (z12 - z10))) z6 0 0 = [z8, z10, z12] := own_R3 _ _ _ _ m0 m1.1 m1.2 m2.1 m2.2 m3.1
    refine Run.go (fun _ k => XS.astore Xg57.here hx rfl (hb hby at_108) rfl rfl (l' := #[.val (.int p1), .val (.int p2), .val (.int p3), .val (.int p4), .val (.int p5), .val (.int z6), .val (.int z8), .val (.int z10), .val (.int z12), .val (.int (3 : Int32)), .val (.ref b14), .val (.ref b59)]) rfl k) ?_
    show Run p e below s 10 136 (Q_rm0 Z p1 p2 p3 p4 p5 h0 n0) (T57.setTop (mkF m 110 #[.val (.int p1), .val (.int p2), .val (.int p3), .val (.int p4), .val (.int p5), .val (.int z6), .val (.int z8), .val (.int z10), .val (.int z12), .val (.int (3 : Int32)), .val (.ref b14), .val (.ref b59)] []))
    refine Run.go (fun _ k => XS.aload Xg57.here hx rfl (hb hby at_110) rfl rfl k) ?_
    show Run p e below s 10 136 (Q_rm0 Z p1 p2 p3 p4 p5 h0 n0) (T57.setTop (mkF m 112 #[.val (.int p1), .val (.int p2), .val (.int p3), .val (.int p4), .val (.int p5), .val (.int z6), .val (.int z8), .val (.int z10), .val (.int z12), .val (.int (3 : Int32)), .val (.ref b14), .val (.ref b59)] [(.ref b59)]))
    refine Run.go (fun _ k => ary_len Xg57 hx hZ rfl fq57_0 (g := (mkF m 112 #[.val (.int p1), .val (.int p2), .val (.int p3), .val (.int p4), .val (.int p5), .val (.int z6), .val (.int z8), .val (.int z10), .val (.int z12), .val (.int (3 : Int32)), .val (.ref b14), .val (.ref b59)] [(.ref b59)])) rfl rfl (hb hby at_112) (z := (own_run ((((([] : List Int32) ++ own_enc 4 (z8 - z6)) ++ own_enc 4 (z10 - z8)) ++ own_enc 4 (z12 - z10))) z6 0 0).length.toInt32) rfl _ k) ?_
    show Run p e below s 10 136 (Q_rm0 Z p1 p2 p3 p4 p5 h0 n0) (T57.setTop (mkF m 113 #[.val (.int p1), .val (.int p2), .val (.int p3), .val (.int p4), .val (.int p5), .val (.int z6), .val (.int z8), .val (.int z10), .val (.int z12), .val (.int (3 : Int32)), .val (.ref b14), .val (.ref b59)] [(.int (own_run ((((([] : List Int32) ++ own_enc 4 (z8 - z6)) ++ own_enc 4 (z10 - z8)) ++ own_enc 4 (z12 - z10))) z6 0 0).length.toInt32)]))
    refine Run.go (fun _ k => XS.iload Xg57.here hx rfl (hb hby at_113) rfl  k) ?_
    show Run p e below s 10 136 (Q_rm0 Z p1 p2 p3 p4 p5 h0 n0) (T57.setTop (mkF m 115 #[.val (.int p1), .val (.int p2), .val (.int p3), .val (.int p4), .val (.int p5), .val (.int z6), .val (.int z8), .val (.int z10), .val (.int z12), .val (.int (3 : Int32)), .val (.ref b14), .val (.ref b59)] [(.int (3 : Int32)), (.int (own_run ((((([] : List Int32) ++ own_enc 4 (z8 - z6)) ++ own_enc 4 (z10 - z8)) ++ own_enc 4 (z12 - z10))) z6 0 0).length.toInt32)]))
    refine Run.go (fun _ k => XS.icmpYes Xg57.here hx rfl (pc0 := 115) (pc' := 120) rfl (hb hby at_115) rfl (teq (congrArg (fun l : List Int32 => l.length.toInt32) hR3)).1 (by decide) (by decide) k) ?_
    show Run p e below s 10 136 (Q_rm0 Z p1 p2 p3 p4 p5 h0 n0) (T57.setTop (mkF m 120 #[.val (.int p1), .val (.int p2), .val (.int p3), .val (.int p4), .val (.int p5), .val (.int z6), .val (.int z8), .val (.int z10), .val (.int z12), .val (.int (3 : Int32)), .val (.ref b14), .val (.ref b59)] []))
    refine Run.go (fun _ k => XS.iload Xg57.here hx rfl (hb hby at_120) rfl  k) ?_
    show Run p e below s 10 136 (Q_rm0 Z p1 p2 p3 p4 p5 h0 n0) (T57.setTop (mkF m 122 #[.val (.int p1), .val (.int p2), .val (.int p3), .val (.int p4), .val (.int p5), .val (.int z6), .val (.int z8), .val (.int z10), .val (.int z12), .val (.int (3 : Int32)), .val (.ref b14), .val (.ref b59)] [(.int (3 : Int32))]))
    refine Run.go (fun _ k => XS.iconst Xg57.here hx rfl (hb hby at_122) k) ?_
    show Run p e below s 10 136 (Q_rm0 Z p1 p2 p3 p4 p5 h0 n0) (T57.setTop (mkF m 123 #[.val (.int p1), .val (.int p2), .val (.int p3), .val (.int p4), .val (.int p5), .val (.int z6), .val (.int z8), .val (.int z10), .val (.int z12), .val (.int (3 : Int32)), .val (.ref b14), .val (.ref b59)] [(.int (1 : Int32)), (.int (3 : Int32))]))
    refine Run.go (fun _ k => XS.icmpNo Xg57.here hx rfl (hb hby at_123) rfl (flt (by decide)).1 k) ?_
    show Run p e below s 10 136 (Q_rm0 Z p1 p2 p3 p4 p5 h0 n0) (T57.setTop (mkF m 126 #[.val (.int p1), .val (.int p2), .val (.int p3), .val (.int p4), .val (.int p5), .val (.int z6), .val (.int z8), .val (.int z10), .val (.int z12), .val (.int (3 : Int32)), .val (.ref b14), .val (.ref b59)] []))
    refine Run.go (fun _ k => XS.aload Xg57.here hx rfl (hb hby at_126) rfl rfl k) ?_
    show Run p e below s 10 136 (Q_rm0 Z p1 p2 p3 p4 p5 h0 n0) (T57.setTop (mkF m 128 #[.val (.int p1), .val (.int p2), .val (.int p3), .val (.int p4), .val (.int p5), .val (.int z6), .val (.int z8), .val (.int z10), .val (.int z12), .val (.int (3 : Int32)), .val (.ref b14), .val (.ref b59)] [(.ref b59)]))
    refine Run.go (fun _ k => XS.iconst Xg57.here hx rfl (hb hby at_128) k) ?_
    show Run p e below s 10 136 (Q_rm0 Z p1 p2 p3 p4 p5 h0 n0) (T57.setTop (mkF m 129 #[.val (.int p1), .val (.int p2), .val (.int p3), .val (.int p4), .val (.int p5), .val (.int z6), .val (.int z8), .val (.int z10), .val (.int z12), .val (.int (3 : Int32)), .val (.ref b14), .val (.ref b59)] [(.int (0 : Int32)), (.ref b59)]))
    refine Run.go (fun _ k => ary_iget Xg57 hx hZ rfl fq57_0 (j := (0 : Int32)) (by decide) (by rw [hR3]; exact (by decide : (0 : Nat) < 3)) (g := (mkF m 129 #[.val (.int p1), .val (.int p2), .val (.int p3), .val (.int p4), .val (.int p5), .val (.int z6), .val (.int z8), .val (.int z10), .val (.int z12), .val (.int (3 : Int32)), .val (.ref b14), .val (.ref b59)] [(.int (0 : Int32)), (.ref b59)])) rfl rfl (hb hby at_129) (congrArg (fun l : List Int32 => Value.int (l.getD 0 0)) hR3) _ k) ?_
    show Run p e below s 10 136 (Q_rm0 Z p1 p2 p3 p4 p5 h0 n0) (T57.setTop (mkF m 130 #[.val (.int p1), .val (.int p2), .val (.int p3), .val (.int p4), .val (.int p5), .val (.int z6), .val (.int z8), .val (.int z10), .val (.int z12), .val (.int (3 : Int32)), .val (.ref b14), .val (.ref b59)] [(.int z8)]))
    refine Run.go (fun _ k => XS.iload Xg57.here hx rfl (hb hby at_130) rfl  k) ?_
    show Run p e below s 10 136 (Q_rm0 Z p1 p2 p3 p4 p5 h0 n0) (T57.setTop (mkF m 132 #[.val (.int p1), .val (.int p2), .val (.int p3), .val (.int p4), .val (.int p5), .val (.int z6), .val (.int z8), .val (.int z10), .val (.int z12), .val (.int (3 : Int32)), .val (.ref b14), .val (.ref b59)] [(.int z8), (.int z8)]))
    refine Run.go (fun _ k => XS.icmpYes Xg57.here hx rfl (pc0 := 132) (pc' := 137) rfl (hb hby at_132) rfl (teq (rfl : z8 = z8)).1 (by decide) (by decide) k) ?_
    show Run p e below s 10 136 (Q_rm0 Z p1 p2 p3 p4 p5 h0 n0) (T57.setTop (mkF m 137 #[.val (.int p1), .val (.int p2), .val (.int p3), .val (.int p4), .val (.int p5), .val (.int z6), .val (.int z8), .val (.int z10), .val (.int z12), .val (.int (3 : Int32)), .val (.ref b14), .val (.ref b59)] []))
    refine Run.go (fun _ k => XS.iload Xg57.here hx rfl (hb hby at_137) rfl  k) ?_
    show Run p e below s 10 136 (Q_rm0 Z p1 p2 p3 p4 p5 h0 n0) (T57.setTop (mkF m 139 #[.val (.int p1), .val (.int p2), .val (.int p3), .val (.int p4), .val (.int p5), .val (.int z6), .val (.int z8), .val (.int z10), .val (.int z12), .val (.int (3 : Int32)), .val (.ref b14), .val (.ref b59)] [(.int (3 : Int32))]))
    refine Run.go (fun _ k => XS.iconst Xg57.here hx rfl (hb hby at_139) k) ?_
    show Run p e below s 10 136 (Q_rm0 Z p1 p2 p3 p4 p5 h0 n0) (T57.setTop (mkF m 140 #[.val (.int p1), .val (.int p2), .val (.int p3), .val (.int p4), .val (.int p5), .val (.int z6), .val (.int z8), .val (.int z10), .val (.int z12), .val (.int (3 : Int32)), .val (.ref b14), .val (.ref b59)] [(.int (2 : Int32)), (.int (3 : Int32))]))
    refine Run.go (fun _ k => XS.icmpNo Xg57.here hx rfl (hb hby at_140) rfl (flt (by decide)).1 k) ?_
    show Run p e below s 10 136 (Q_rm0 Z p1 p2 p3 p4 p5 h0 n0) (T57.setTop (mkF m 143 #[.val (.int p1), .val (.int p2), .val (.int p3), .val (.int p4), .val (.int p5), .val (.int z6), .val (.int z8), .val (.int z10), .val (.int z12), .val (.int (3 : Int32)), .val (.ref b14), .val (.ref b59)] []))
    refine Run.go (fun _ k => XS.aload Xg57.here hx rfl (hb hby at_143) rfl rfl k) ?_
    show Run p e below s 10 136 (Q_rm0 Z p1 p2 p3 p4 p5 h0 n0) (T57.setTop (mkF m 145 #[.val (.int p1), .val (.int p2), .val (.int p3), .val (.int p4), .val (.int p5), .val (.int z6), .val (.int z8), .val (.int z10), .val (.int z12), .val (.int (3 : Int32)), .val (.ref b14), .val (.ref b59)] [(.ref b59)]))
    refine Run.go (fun _ k => XS.iconst Xg57.here hx rfl (hb hby at_145) k) ?_
    show Run p e below s 10 136 (Q_rm0 Z p1 p2 p3 p4 p5 h0 n0) (T57.setTop (mkF m 146 #[.val (.int p1), .val (.int p2), .val (.int p3), .val (.int p4), .val (.int p5), .val (.int z6), .val (.int z8), .val (.int z10), .val (.int z12), .val (.int (3 : Int32)), .val (.ref b14), .val (.ref b59)] [(.int (1 : Int32)), (.ref b59)]))
    refine Run.go (fun _ k => ary_iget Xg57 hx hZ rfl fq57_0 (j := (1 : Int32)) (by decide) (by rw [hR3]; exact (by decide : (1 : Nat) < 3)) (g := (mkF m 146 #[.val (.int p1), .val (.int p2), .val (.int p3), .val (.int p4), .val (.int p5), .val (.int z6), .val (.int z8), .val (.int z10), .val (.int z12), .val (.int (3 : Int32)), .val (.ref b14), .val (.ref b59)] [(.int (1 : Int32)), (.ref b59)])) rfl rfl (hb hby at_146) (congrArg (fun l : List Int32 => Value.int (l.getD 1 0)) hR3) _ k) ?_
    show Run p e below s 10 136 (Q_rm0 Z p1 p2 p3 p4 p5 h0 n0) (T57.setTop (mkF m 147 #[.val (.int p1), .val (.int p2), .val (.int p3), .val (.int p4), .val (.int p5), .val (.int z6), .val (.int z8), .val (.int z10), .val (.int z12), .val (.int (3 : Int32)), .val (.ref b14), .val (.ref b59)] [(.int z10)]))
    refine Run.go (fun _ k => XS.iload Xg57.here hx rfl (hb hby at_147) rfl  k) ?_
    show Run p e below s 10 136 (Q_rm0 Z p1 p2 p3 p4 p5 h0 n0) (T57.setTop (mkF m 149 #[.val (.int p1), .val (.int p2), .val (.int p3), .val (.int p4), .val (.int p5), .val (.int z6), .val (.int z8), .val (.int z10), .val (.int z12), .val (.int (3 : Int32)), .val (.ref b14), .val (.ref b59)] [(.int z10), (.int z10)]))
    refine Run.go (fun _ k => XS.icmpYes Xg57.here hx rfl (pc0 := 149) (pc' := 154) rfl (hb hby at_149) rfl (teq (rfl : z10 = z10)).1 (by decide) (by decide) k) ?_
    show Run p e below s 10 136 (Q_rm0 Z p1 p2 p3 p4 p5 h0 n0) (T57.setTop (mkF m 154 #[.val (.int p1), .val (.int p2), .val (.int p3), .val (.int p4), .val (.int p5), .val (.int z6), .val (.int z8), .val (.int z10), .val (.int z12), .val (.int (3 : Int32)), .val (.ref b14), .val (.ref b59)] []))
    refine Run.go (fun _ k => XS.iload Xg57.here hx rfl (hb hby at_154) rfl  k) ?_
    show Run p e below s 10 136 (Q_rm0 Z p1 p2 p3 p4 p5 h0 n0) (T57.setTop (mkF m 156 #[.val (.int p1), .val (.int p2), .val (.int p3), .val (.int p4), .val (.int p5), .val (.int z6), .val (.int z8), .val (.int z10), .val (.int z12), .val (.int (3 : Int32)), .val (.ref b14), .val (.ref b59)] [(.int (3 : Int32))]))
    refine Run.go (fun _ k => XS.iconst Xg57.here hx rfl (hb hby at_156) k) ?_
    show Run p e below s 10 136 (Q_rm0 Z p1 p2 p3 p4 p5 h0 n0) (T57.setTop (mkF m 157 #[.val (.int p1), .val (.int p2), .val (.int p3), .val (.int p4), .val (.int p5), .val (.int z6), .val (.int z8), .val (.int z10), .val (.int z12), .val (.int (3 : Int32)), .val (.ref b14), .val (.ref b59)] [(.int (3 : Int32)), (.int (3 : Int32))]))
    refine Run.go (fun _ k => XS.icmpNo Xg57.here hx rfl (hb hby at_157) rfl (flt (by decide)).1 k) ?_
    show Run p e below s 10 136 (Q_rm0 Z p1 p2 p3 p4 p5 h0 n0) (T57.setTop (mkF m 160 #[.val (.int p1), .val (.int p2), .val (.int p3), .val (.int p4), .val (.int p5), .val (.int z6), .val (.int z8), .val (.int z10), .val (.int z12), .val (.int (3 : Int32)), .val (.ref b14), .val (.ref b59)] []))
    refine Run.go (fun _ k => XS.aload Xg57.here hx rfl (hb hby at_160) rfl rfl k) ?_
    show Run p e below s 10 136 (Q_rm0 Z p1 p2 p3 p4 p5 h0 n0) (T57.setTop (mkF m 162 #[.val (.int p1), .val (.int p2), .val (.int p3), .val (.int p4), .val (.int p5), .val (.int z6), .val (.int z8), .val (.int z10), .val (.int z12), .val (.int (3 : Int32)), .val (.ref b14), .val (.ref b59)] [(.ref b59)]))
    refine Run.go (fun _ k => XS.iconst Xg57.here hx rfl (hb hby at_162) k) ?_
    show Run p e below s 10 136 (Q_rm0 Z p1 p2 p3 p4 p5 h0 n0) (T57.setTop (mkF m 163 #[.val (.int p1), .val (.int p2), .val (.int p3), .val (.int p4), .val (.int p5), .val (.int z6), .val (.int z8), .val (.int z10), .val (.int z12), .val (.int (3 : Int32)), .val (.ref b14), .val (.ref b59)] [(.int (2 : Int32)), (.ref b59)]))
    refine Run.go (fun _ k => ary_iget Xg57 hx hZ rfl fq57_0 (j := (2 : Int32)) (by decide) (by rw [hR3]; exact (by decide : (2 : Nat) < 3)) (g := (mkF m 163 #[.val (.int p1), .val (.int p2), .val (.int p3), .val (.int p4), .val (.int p5), .val (.int z6), .val (.int z8), .val (.int z10), .val (.int z12), .val (.int (3 : Int32)), .val (.ref b14), .val (.ref b59)] [(.int (2 : Int32)), (.ref b59)])) rfl rfl (hb hby at_163) (congrArg (fun l : List Int32 => Value.int (l.getD 2 0)) hR3) _ k) ?_
    show Run p e below s 10 136 (Q_rm0 Z p1 p2 p3 p4 p5 h0 n0) (T57.setTop (mkF m 164 #[.val (.int p1), .val (.int p2), .val (.int p3), .val (.int p4), .val (.int p5), .val (.int z6), .val (.int z8), .val (.int z10), .val (.int z12), .val (.int (3 : Int32)), .val (.ref b14), .val (.ref b59)] [(.int z12)]))
    refine Run.go (fun _ k => XS.iload Xg57.here hx rfl (hb hby at_164) rfl  k) ?_
    show Run p e below s 10 136 (Q_rm0 Z p1 p2 p3 p4 p5 h0 n0) (T57.setTop (mkF m 166 #[.val (.int p1), .val (.int p2), .val (.int p3), .val (.int p4), .val (.int p5), .val (.int z6), .val (.int z8), .val (.int z10), .val (.int z12), .val (.int (3 : Int32)), .val (.ref b14), .val (.ref b59)] [(.int z12), (.int z12)]))
    refine Run.go (fun _ k => XS.icmpYes Xg57.here hx rfl (pc0 := 166) (pc' := 171) rfl (hb hby at_166) rfl (teq (rfl : z12 = z12)).1 (by decide) (by decide) k) ?_
    show Run p e below s 10 136 (Q_rm0 Z p1 p2 p3 p4 p5 h0 n0) (T57.setTop (mkF m 171 #[.val (.int p1), .val (.int p2), .val (.int p3), .val (.int p4), .val (.int p5), .val (.int z6), .val (.int z8), .val (.int z10), .val (.int z12), .val (.int (3 : Int32)), .val (.ref b14), .val (.ref b59)] []))
    refine Run.go (fun _ k => XS.iconst Xg57.here hx rfl (hb hby at_171) k) ?_
    show Run p e below s 10 136 (Q_rm0 Z p1 p2 p3 p4 p5 h0 n0) (T57.setTop (mkF m 172 #[.val (.int p1), .val (.int p2), .val (.int p3), .val (.int p4), .val (.int p5), .val (.int z6), .val (.int z8), .val (.int z10), .val (.int z12), .val (.int (3 : Int32)), .val (.ref b14), .val (.ref b59)] [(.int (1 : Int32))]))
    exact Run.retN (y := 1) Xg57 hx (t := .boolean) Bd.returns (by simp) rfl Bd.notSynchronized (hb hby at_172) (by decide) (by decide) ⟨rfl, Ng57⟩
set_option maxRecDepth 65536 in
set_option maxHeartbeats 40000000 in
theorem comes_1 {Post : Tables → Env → Array Value → State → Outcome → State → Prop} (hpost : ∀ tb e args s v u, (limb_1_1.after args s (.returned v) u = true ∧ limb_1_2.after args s (.returned v) u = true ∧ True) → FrameEnd s (.returned v) u (Jvm.fieldLocs frame_1_writes args s ++ Jvm.arrayLocs frame_1_arrays args s ++ Jvm.staticLocs frame_1_statics s) 24 192 → Post tb e args s (.returned v) u) :
    ArmFor flags0 classFile x code maxLocals ret World_1 tables_1 room_1 Calls_1 rest_1 Pre_1 Post := by
  intro l hfl _ _ p e ha hc hk s m args below hf hA hF happ hP
  obtain ⟨hcalls, hrest, hpre⟩ := hP
  obtain ⟨-, -, -, hnamed, -, -, -, hat⟩ := (Spec.applies_iff hf).mp happ
  obtain ⟨hg, hn⟩ := and_e (Cond.before_iff.mp (show (Jvm.Cond.and given_1 narrow_1).before args s = true from hpre))
  obtain ⟨g1, g2⟩ := and_e hg
  obtain ⟨g3, g4⟩ := and_e g2
  obtain ⟨g5, g6⟩ := and_e g4
  obtain ⟨g7, g8⟩ := and_e g6
  obtain ⟨g9, g10⟩ := and_e g8
  obtain ⟨w0, w1, w2, w3, w4, rfl⟩ : ∃ w0 w1 w2 w3 w4 : Value, args = #[w0, w1, w2, w3, w4] := by
    have hs : args.size = 5 := by simpa [Cond.value, given_1] using g1
    obtain ⟨L⟩ := args
    match L, hs with
    | [w0, w1, w2, w3, w4], _ => exact ⟨w0, w1, w2, w3, w4, rfl⟩
  have hw := fun d (hd : d ∈ tables_1) => atoms_spec (ws := Jvm.Cond.code x code maxLocals ret :: tables_1) hat d (List.mem_cons_of_mem _ hd)
  have hfit : Fit s := fun {y c} hc i hi => by
    obtain ⟨ha, rfl⟩ := Array.getElem?_eq_some_iff.mp hc
    have q := List.all_eq_true.mp ((Array.all_eq_true_iff_forall_mem.mp hF) _ (Array.getElem_mem ha)) i (List.mem_range.mpr hi)
    simpa [Array.getElem?_eq_getElem hi] using q
  obtain ⟨i0, ei0⟩ := is_v g3
  obtain rfl : w0 = (.int i0) := Option.some.inj ei0
  obtain ⟨i1, ei1⟩ := is_v g5
  obtain rfl : w1 = (.int i1) := Option.some.inj ei1
  obtain ⟨i2, ei2⟩ := is_v g7
  obtain rfl : w2 = (.int i2) := Option.some.inj ei2
  obtain ⟨i3, ei3⟩ := is_v g9
  obtain rfl : w3 = (.int i3) := Option.some.inj ei3
  obtain ⟨i4, ei4⟩ := is_v g10
  obtain rfl : w4 = (.int i4) := Option.some.inj ei4
  obtain ⟨n, o, h1, h2, h3, _, L, rfl, ⟨rfl, N⟩, hq⟩ := rm0 l s _ hw tables_1 i0 i1 i2 i3 i4 s.heap s.heap.size (Nat.le_refl _)  p e ha hc hk s m _ below hf ((Spec.applies_iff_loose hf).mp happ).1 ⟨rfl, State.Warmed39.refl s, rfl⟩ trivial
  refine ⟨n, _, h1, h2, h3, hpost _ _ _ _ _ _ ⟨Cond.after_iff.mpr rfl, Cond.after_iff.mpr (eq_i res_at (Term.int_eval (1)) rfl), trivial⟩ ⟨hq.1, hq.2.1, (hq.2.2.sift fun y hy => Or.inr (N y hy)).mono (by decide) (by decide)⟩⟩
theorem main_1_1 : Claimed_1_1 := comes_1 fun _ _ _ _ _ _ h hF => ⟨h.1, hF⟩
theorem main_1_2 : Claimed_1_2 := comes_1 fun _ _ _ _ _ _ h hF => ⟨h.2.1, hF⟩
end Jvm.Pilot.@@N@@
namespace Jvm.Pilot.@@N@@
open Jvm Jvm.ClassFile Sem Op Lib Jvm.Free Jvm.Stand Jvm.Pilot.@@N@@.Jvm.D
/-! MADE BY PROGRAM (witnessworld.py) out of the Statement's table words and the real class files: 12 classes; the members and pool entries that the words name. The judged class is class 1, her method 1. -/
namespace start1
open Jvm.ClassFile
def u (s : String) : CpInfo := .utf8 (stringToUtf16 s)
/-- a pool by its gaps: so many unusable entries, then the entry; so many at the end -/
def gap : Nat → List CpInfo → List CpInfo
  | 0, r => r
  | n + 1, r => .unusable :: gap n r
def poolList (es : List (Nat × CpInfo)) (last : Nat) : List CpInfo := es.foldr (fun e r => gap e.1 (e.2 :: r)) (gap last [])
def pool (es : List (Nat × CpInfo)) (last : Nat) : Array CpInfo := ⟨poolList es last⟩
def fileOf (pool : Array CpInfo) (this : Nat) (attrs : Array Attribute := #[]) (ms : Array MethodInfo := #[]) (fl : Nat := 33) (sup : Nat := 0) (ifs : Array Nat := #[]) (fds : Array FieldInfo := #[]) : ClassFile where
  minorVersion := 0
  majorVersion := 65
  constantPool := pool
  accessFlags := fl
  thisClass := this
  superClass := sup
  interfaces := ifs
  fields := fds
  methods := ms
  attributes := attrs
def plain (name : String) (sup : Option ClassId) : Class where
  name := name
  kind := .ordinary
  loader := none
  accessFlags := 33
  super := sup
  interfaces := #[]
  cf := none
  fields := #[]
  methods := #[]
  instanceTypes := #[]
  staticTypes := #[]
  resolved := #[]
  callSites := []
  init := .initialized
  statics := none
  mirror := none

def pool0 : Array CpInfo := pool [(5, u "<init>"), (0, u "()V"), (1, .class_ 10), (1, u "java/lang/Object"), (85, u "clone"), (0, u "()Ljava/lang/Object;")] 26

def k0c0 : Code := { maxStack := 0, maxLocals := 1, code := object_method_1_code, exceptionTable := #[], attributes := #[] }
def k0m0 : Method := { name := "<init>", desc := "()V", sig := { parameters := [], returnType := none }, accessFlags := 1, code := some k0c0 }
def k0m1 : Method := { name := "clone", desc := "()Ljava/lang/Object;", sig := { parameters := [], returnType := some (.object "java/lang/Object") }, accessFlags := 260, code := none }
/-- java/lang/Object -/
def k0 : Class := { plain "java/lang/Object" none with
  accessFlags := 33
  interfaces := #[]
  cf := some (fileOf pool0 8 #[] #[{ accessFlags := 1, nameIndex := 5, descriptorIndex := 6, attributes := #[] }, { accessFlags := 260, nameIndex := 96, descriptorIndex := 97, attributes := #[] }] 33 0 #[] #[])
  fields := #[]
  methods := #[k0m0, k0m1]
  instanceTypes := #[]
  staticTypes := #[]
  resolved := Array.replicate 124 none
  statics := none }

def pool1 : Array CpInfo := pool [(2, .class_ 4), (1, u "java/lang/Object"), (0, u "<init>"), (0, u "()V"), (0, .integer 2147483647), (0, .methodref 9 10), (0, .class_ 11), (0, .nameAndType 12 13), (0, u "java/lang/Math"), (0, u "max"), (0, u "(II)I"), (0, .class_ 15), (0, u "com/example/subjectory/subjectory/index/Postings"), (0, .methodref 14 17), (0, .nameAndType 5 18), (0, u "(I)V"), (0, .methodref 14 20), (0, .nameAndType 21 22), (0, u "add"), (0, u "(I)I"), (0, .methodref 14 24), (0, .nameAndType 25 26), (0, u "toValue"), (0, u "()[B"), (0, .methodref 14 28), (0, .nameAndType 29 30), (0, u "ordinals"), (0, u "(I[B)[I"), (0, .class_ 32), (0, u "com/example/subjectory/subjectory/index/PostingsOrdinalsPinLaw"), (2, u "law"), (0, u "(IIIII)Z")] 5

def k1m0 : Method := { name := "<init>", desc := "()V", sig := { parameters := [], returnType := none }, accessFlags := 1, code := none }
def k1c1 : Code := { maxStack := 3, maxLocals := 12, code := code, exceptionTable := #[], attributes := #[] }
def k1m1 : Method := { name := "law", desc := "(IIIII)Z", sig := { parameters := [.int, .int, .int, .int, .int], returnType := some .boolean }, accessFlags := 9, code := some k1c1 }
/-- com/example/subjectory/subjectory/index/PostingsOrdinalsPinLaw -/
def k1 : Class := { plain "com/example/subjectory/subjectory/index/PostingsOrdinalsPinLaw" (some 0) with
  accessFlags := 49
  interfaces := #[]
  cf := some (fileOf pool1 31 #[] #[{ accessFlags := 1, nameIndex := 5, descriptorIndex := 6, attributes := #[] }, { accessFlags := 9, nameIndex := 35, descriptorIndex := 36, attributes := #[] }] 49 2 #[] #[])
  fields := #[]
  methods := #[k1m0, k1m1]
  instanceTypes := #[]
  staticTypes := #[]
  resolved := Array.replicate 42 none
  statics := none }

def pool2 : Array CpInfo := pool [(1, .class_ 2), (0, u "java/lang/Math"), (1, .class_ 6), (1, u "java/lang/Object"), (0, u "<init>"), (0, u "()V"), (89, .class_ 100), (1, u "java/lang/Math$RandomNumberGeneratorHolder"), (71, u "negativeZeroFloatBits"), (0, u "J"), (2, u "negativeZeroDoubleBits"), (21, u "max"), (2, u "min"), (43, u "$assertionsDisabled"), (0, u "Z"), (88, u "(II)I"), (2, u "twoToTheDoubleScaleDown"), (0, u "D"), (4, u "twoToTheDoubleScaleUp"), (9, u "E"), (3, u "PI"), (2, u "TAU"), (2, u "DEGREES_TO_RADIANS"), (0, u "RADIANS_TO_DEGREES")] 94

def k2m0 : Method := { name := "<init>", desc := "()V", sig := { parameters := [], returnType := none }, accessFlags := 2, code := none }
def k2c1 : Code := { maxStack := 2, maxLocals := 2, code := jdk_29_method_65_code, exceptionTable := #[], attributes := #[] }
def k2m1 : Method := { name := "max", desc := "(II)I", sig := { parameters := [.int, .int], returnType := some .int }, accessFlags := 9, code := some k2c1 }
def k2c2 : Code := { maxStack := 2, maxLocals := 2, code := jdk_29_method_69_code, exceptionTable := #[], attributes := #[] }
def k2m2 : Method := { name := "min", desc := "(II)I", sig := { parameters := [.int, .int], returnType := some .int }, accessFlags := 9, code := some k2c2 }
/-- java/lang/Math -/
def k2 : Class := { plain "java/lang/Math" (some 0) with
  accessFlags := 49
  interfaces := #[]
  cf := some (fileOf pool2 1 #[.nestMembers #[98]] #[{ accessFlags := 2, nameIndex := 7, descriptorIndex := 8, attributes := #[] }, { accessFlags := 9, nameIndex := 198, descriptorIndex := 335, attributes := #[] }, { accessFlags := 9, nameIndex := 201, descriptorIndex := 335, attributes := #[] }] 49 4 #[] #[{ accessFlags := 25, nameIndex := 354, descriptorIndex := 339, attributes := #[] }, { accessFlags := 25, nameIndex := 358, descriptorIndex := 339, attributes := #[] }, { accessFlags := 25, nameIndex := 361, descriptorIndex := 339, attributes := #[] }, { accessFlags := 26, nameIndex := 364, descriptorIndex := 339, attributes := #[] }, { accessFlags := 26, nameIndex := 365, descriptorIndex := 339, attributes := #[] }, { accessFlags := 26, nameIndex := 172, descriptorIndex := 173, attributes := #[] }, { accessFlags := 26, nameIndex := 176, descriptorIndex := 173, attributes := #[] }, { accessFlags := 8, nameIndex := 344, descriptorIndex := 339, attributes := #[] }, { accessFlags := 8, nameIndex := 338, descriptorIndex := 339, attributes := #[] }, { accessFlags := 4120, nameIndex := 245, descriptorIndex := 246, attributes := #[] }])
  fields := #[{ name := "E", type := .double, accessFlags := 25, slot := 0, constantValue := 0 }, { name := "PI", type := .double, accessFlags := 25, slot := 1, constantValue := 0 }, { name := "TAU", type := .double, accessFlags := 25, slot := 2, constantValue := 0 }, { name := "DEGREES_TO_RADIANS", type := .double, accessFlags := 26, slot := 3, constantValue := 0 }, { name := "RADIANS_TO_DEGREES", type := .double, accessFlags := 26, slot := 4, constantValue := 0 }, { name := "negativeZeroFloatBits", type := .long, accessFlags := 26, slot := 5, constantValue := 0 }, { name := "negativeZeroDoubleBits", type := .long, accessFlags := 26, slot := 6, constantValue := 0 }, { name := "twoToTheDoubleScaleUp", type := .double, accessFlags := 8, slot := 7, constantValue := 0 }, { name := "twoToTheDoubleScaleDown", type := .double, accessFlags := 8, slot := 8, constantValue := 0 }, { name := "$assertionsDisabled", type := .boolean, accessFlags := 4120, slot := 9, constantValue := 0 }]
  methods := #[k2m0, k2m1, k2m2]
  instanceTypes := #[]
  staticTypes := #[.double, .double, .double, .double, .double, .long, .long, .double, .double, .boolean]
  resolved := Array.replicate 460 none
  statics := none }

def pool3 : Array CpInfo := pool [(1, .methodref 2 3), (0, .class_ 4), (0, .nameAndType 5 6), (0, u "java/lang/Object"), (0, u "<init>"), (0, u "()V"), (0, .fieldref 8 9), (0, .class_ 10), (0, .nameAndType 11 12), (0, u "com/example/subjectory/subjectory/index/Postings"), (0, u "gaps"), (0, u "[B"), (0, .fieldref 8 14), (0, .nameAndType 15 16), (0, u "first"), (0, u "I"), (0, .fieldref 8 18), (0, .nameAndType 19 16), (0, u "last"), (0, .fieldref 8 21), (0, .nameAndType 22 16), (0, u "length"), (0, .methodref 8 24), (0, .nameAndType 25 26), (0, u "append"), (0, u "(B)V"), (0, .methodref 28 29), (0, .class_ 30), (0, .nameAndType 31 32), (0, u "java/util/Arrays"), (0, u "copyOf"), (0, u "([BI)[B"), (0, .methodref 8 34), (0, .nameAndType 35 36), (0, u "count"), (0, u "([B)J"), (0, u "(I)V"), (3, u "add"), (0, u "(I)I"), (1, u "toValue"), (0, u "()[B"), (1, u "ordinals"), (0, u "(I[B)[I")] 4

def k3c0 : Code := { maxStack := 2, maxLocals := 2, code := prog_24_method_1_code, exceptionTable := #[], attributes := #[] }
def k3m0 : Method := { name := "<init>", desc := "(I)V", sig := { parameters := [.int], returnType := none }, accessFlags := 0, code := some k3c0 }
def k3c1 : Code := { maxStack := 3, maxLocals := 4, code := prog_24_method_3_code, exceptionTable := #[], attributes := #[] }
def k3m1 : Method := { name := "add", desc := "(I)I", sig := { parameters := [.int], returnType := some .int }, accessFlags := 0, code := some k3c1 }
def k3c2 : Code := { maxStack := 2, maxLocals := 1, code := prog_24_method_4_code, exceptionTable := #[], attributes := #[] }
def k3m2 : Method := { name := "toValue", desc := "()[B", sig := { parameters := [], returnType := some (.array .byte) }, accessFlags := 0, code := some k3c2 }
def k3c3 : Code := { maxStack := 4, maxLocals := 7, code := prog_24_method_5_code, exceptionTable := #[], attributes := #[] }
def k3m3 : Method := { name := "count", desc := "([B)J", sig := { parameters := [(.array .byte)], returnType := some .long }, accessFlags := 8, code := some k3c3 }
def k3c4 : Code := { maxStack := 3, maxLocals := 11, code := prog_24_method_6_code, exceptionTable := #[], attributes := #[] }
def k3m4 : Method := { name := "ordinals", desc := "(I[B)[I", sig := { parameters := [.int, (.array .byte)], returnType := some (.array .int) }, accessFlags := 8, code := some k3c4 }
def k3c5 : Code := { maxStack := 4, maxLocals := 2, code := prog_24_method_7_code, exceptionTable := #[], attributes := #[] }
def k3m5 : Method := { name := "append", desc := "(B)V", sig := { parameters := [.byte], returnType := none }, accessFlags := 2, code := some k3c5 }
/-- com/example/subjectory/subjectory/index/Postings -/
def k3 : Class := { plain "com/example/subjectory/subjectory/index/Postings" (some 0) with
  accessFlags := 48
  interfaces := #[]
  cf := some (fileOf pool3 8 #[] #[{ accessFlags := 0, nameIndex := 5, descriptorIndex := 37, attributes := #[] }, { accessFlags := 0, nameIndex := 41, descriptorIndex := 42, attributes := #[] }, { accessFlags := 0, nameIndex := 44, descriptorIndex := 45, attributes := #[] }, { accessFlags := 8, nameIndex := 35, descriptorIndex := 36, attributes := #[] }, { accessFlags := 8, nameIndex := 47, descriptorIndex := 48, attributes := #[] }, { accessFlags := 2, nameIndex := 25, descriptorIndex := 26, attributes := #[] }] 48 2 #[] #[{ accessFlags := 18, nameIndex := 15, descriptorIndex := 16, attributes := #[] }, { accessFlags := 2, nameIndex := 19, descriptorIndex := 16, attributes := #[] }, { accessFlags := 2, nameIndex := 11, descriptorIndex := 12, attributes := #[] }, { accessFlags := 2, nameIndex := 22, descriptorIndex := 16, attributes := #[] }])
  fields := #[{ name := "first", type := .int, accessFlags := 18, slot := 0, constantValue := 0 }, { name := "last", type := .int, accessFlags := 2, slot := 1, constantValue := 0 }, { name := "gaps", type := (.array .byte), accessFlags := 2, slot := 2, constantValue := 0 }, { name := "length", type := .int, accessFlags := 2, slot := 3, constantValue := 0 }]
  methods := #[k3m0, k3m1, k3m2, k3m3, k3m4, k3m5]
  instanceTypes := #[.int, .int, (.array .byte), .int]
  staticTypes := #[]
  resolved := Array.replicate 53 none
  statics := none }

def pool4 : Array CpInfo := pool [(2, .class_ 4), (1, u "java/lang/Object"), (0, u "<init>"), (0, u "()V"), (7, .class_ 16), (1, u "java/util/Arrays"), (57, .class_ 76), (1, u "java/util/Arrays$NaturalOrder"), (32, u "()Ljava/lang/Object;"), (3, .class_ 115), (1, u "java/util/Arrays$LegacyMergeSort"), (1, u "Z"), (10, .nameAndType 129 109), (0, u "clone"), (20, .methodref 151 152), (0, .class_ 153), (0, .nameAndType 154 155), (0, u "java/lang/System"), (0, u "arraycopy"), (0, u "(Ljava/lang/Object;ILjava/lang/Object;II)V"), (146, u "copyOf"), (1, .methodref 305 306), (0, .class_ 307), (0, .nameAndType 308 309), (0, u "java/lang/Math"), (0, u "min"), (0, u "(II)I"), (0, .methodref 311 128), (0, .class_ 312), (0, u "[B"), (62, .class_ 376), (0, u "java/util/Arrays$ArrayList"), (68, u "$assertionsDisabled"), (269, u "MIN_ARRAY_SORT_GRAN"), (0, u "I"), (2, u "INSERTIONSORT_THRESHOLD"), (149, u "([BI)[B"), (105, .class_ 976), (0, u "java/util/Arrays$ArrayItr")] 52

def k4m0 : Method := { name := "<init>", desc := "()V", sig := { parameters := [], returnType := none }, accessFlags := 2, code := none }
def k4c1 : Code := { maxStack := 6, maxLocals := 3, code := jdk_65_method_121_code, exceptionTable := #[], attributes := #[] }
def k4m1 : Method := { name := "copyOf", desc := "([BI)[B", sig := { parameters := [(.array .byte), .int], returnType := some (.array .byte) }, accessFlags := 9, code := some k4c1 }
/-- java/util/Arrays -/
def k4 : Class := { plain "java/util/Arrays" (some 0) with
  accessFlags := 49
  interfaces := #[]
  cf := some (fileOf pool4 14 #[.nestMembers #[975, 375, 113, 74]] #[{ accessFlags := 2, nameIndex := 5, descriptorIndex := 6, attributes := #[] }, { accessFlags := 9, nameIndex := 302, descriptorIndex := 869, attributes := #[] }] 49 2 #[] #[{ accessFlags := 26, nameIndex := 715, descriptorIndex := 716, attributes := #[] }, { accessFlags := 26, nameIndex := 719, descriptorIndex := 716, attributes := #[] }, { accessFlags := 4120, nameIndex := 445, descriptorIndex := 117, attributes := #[] }])
  fields := #[{ name := "MIN_ARRAY_SORT_GRAN", type := .int, accessFlags := 26, slot := 0, constantValue := 0 }, { name := "INSERTIONSORT_THRESHOLD", type := .int, accessFlags := 26, slot := 1, constantValue := 0 }, { name := "$assertionsDisabled", type := .boolean, accessFlags := 4120, slot := 2, constantValue := 0 }]
  methods := #[k4m0, k4m1]
  instanceTypes := #[]
  staticTypes := #[.int, .int, .boolean]
  resolved := Array.replicate 1029 none
  statics := none }

def pool5 : Array CpInfo := pool [(2, .class_ 4), (1, u "java/lang/Object"), (0, u "<init>"), (0, u "()V"), (1, .class_ 10), (1, u "java/lang/System"), (0, u "allowSecurityManager"), (0, u "I"), (16, u "cons"), (0, u "Ljava/io/Console;"), (77, .class_ 110), (1, u "java/lang/System$CallersHolder"), (43, u "initialErrStream"), (0, u "Ljava/io/PrintStream;"), (19, u "security"), (0, u "Ljava/lang/SecurityManager;"), (31, .class_ 209), (0, u "java/lang/System$1"), (7, u "props"), (0, u "Ljava/util/Properties;"), (2, u "lineSeparator"), (0, u "Ljava/lang/String;"), (96, .class_ 321), (1, u "java/lang/System$LoggerFinder"), (5, .class_ 328), (0, u "java/lang/System$Logger"), (67, u "err"), (2, u "out"), (91, u "notSupportedJnuEncoding"), (15, u "in"), (17, u "initialIn"), (0, u "Ljava/io/InputStream;"), (35, u "bootLayer"), (0, u "Ljava/lang/ModuleLayer;"), (99, .class_ 664), (0, u "java/lang/System$2"), (9, u "NEVER"), (2, u "MAYBE"), (49, u "arraycopy"), (0, u "(Ljava/lang/Object;ILjava/lang/Object;II)V"), (72, .class_ 802), (0, u "java/lang/System$Logger$Level")] 31

def k5m0 : Method := { name := "<init>", desc := "()V", sig := { parameters := [], returnType := none }, accessFlags := 2, code := none }
def k5m1 : Method := { name := "arraycopy", desc := "(Ljava/lang/Object;ILjava/lang/Object;II)V", sig := { parameters := [(.object "java/lang/Object"), .int, (.object "java/lang/Object"), .int, .int], returnType := none }, accessFlags := 265, code := none }
/-- java/lang/System -/
def k5 : Class := { plain "java/lang/System" (some 0) with
  accessFlags := 49
  interfaces := #[]
  cf := some (fileOf pool5 8 #[.nestMembers #[319, 327, 801, 108, 663, 208]] #[{ accessFlags := 2, nameIndex := 5, descriptorIndex := 6, attributes := #[] }, { accessFlags := 265, nameIndex := 727, descriptorIndex := 728, attributes := #[] }] 49 2 #[] #[{ accessFlags := 25, nameIndex := 507, descriptorIndex := 526, attributes := #[] }, { accessFlags := 25, nameIndex := 399, descriptorIndex := 155, attributes := #[] }, { accessFlags := 25, nameIndex := 396, descriptorIndex := 155, attributes := #[] }, { accessFlags := 10, nameIndex := 525, descriptorIndex := 526, attributes := #[] }, { accessFlags := 26, nameIndex := 674, descriptorIndex := 12, attributes := #[] }, { accessFlags := 26, nameIndex := 677, descriptorIndex := 12, attributes := #[] }, { accessFlags := 10, nameIndex := 11, descriptorIndex := 12, attributes := #[] }, { accessFlags := 74, nameIndex := 175, descriptorIndex := 176, attributes := #[] }, { accessFlags := 10, nameIndex := 491, descriptorIndex := 222, attributes := #[] }, { accessFlags := 74, nameIndex := 29, descriptorIndex := 30, attributes := #[] }, { accessFlags := 74, nameIndex := 154, descriptorIndex := 155, attributes := #[] }, { accessFlags := 10, nameIndex := 217, descriptorIndex := 218, attributes := #[] }, { accessFlags := 10, nameIndex := 221, descriptorIndex := 222, attributes := #[] }, { accessFlags := 8, nameIndex := 562, descriptorIndex := 563, attributes := #[] }])
  fields := #[{ name := "in", type := (.object "java/io/InputStream"), accessFlags := 25, slot := 0, constantValue := 0 }, { name := "out", type := (.object "java/io/PrintStream"), accessFlags := 25, slot := 1, constantValue := 0 }, { name := "err", type := (.object "java/io/PrintStream"), accessFlags := 25, slot := 2, constantValue := 0 }, { name := "initialIn", type := (.object "java/io/InputStream"), accessFlags := 10, slot := 3, constantValue := 0 }, { name := "NEVER", type := .int, accessFlags := 26, slot := 4, constantValue := 0 }, { name := "MAYBE", type := .int, accessFlags := 26, slot := 5, constantValue := 0 }, { name := "allowSecurityManager", type := .int, accessFlags := 10, slot := 6, constantValue := 0 }, { name := "security", type := (.object "java/lang/SecurityManager"), accessFlags := 74, slot := 7, constantValue := 0 }, { name := "notSupportedJnuEncoding", type := (.object "java/lang/String"), accessFlags := 10, slot := 8, constantValue := 0 }, { name := "cons", type := (.object "java/io/Console"), accessFlags := 74, slot := 9, constantValue := 0 }, { name := "initialErrStream", type := (.object "java/io/PrintStream"), accessFlags := 74, slot := 10, constantValue := 0 }, { name := "props", type := (.object "java/util/Properties"), accessFlags := 10, slot := 11, constantValue := 0 }, { name := "lineSeparator", type := (.object "java/lang/String"), accessFlags := 10, slot := 12, constantValue := 0 }, { name := "bootLayer", type := (.object "java/lang/ModuleLayer"), accessFlags := 8, slot := 13, constantValue := 0 }]
  methods := #[k5m0, k5m1]
  instanceTypes := #[]
  staticTypes := #[(.object "java/io/InputStream"), (.object "java/io/PrintStream"), (.object "java/io/PrintStream"), (.object "java/io/InputStream"), .int, .int, .int, (.object "java/lang/SecurityManager"), (.object "java/lang/String"), (.object "java/io/Console"), (.object "java/io/PrintStream"), (.object "java/util/Properties"), (.object "java/lang/String"), (.object "java/lang/ModuleLayer")]
  resolved := Array.replicate 834 none
  statics := none }

def pool6 : Array CpInfo := pool [(1, .class_ 2), (0, u "java/lang/Cloneable"), (0, .class_ 4), (0, u "java/lang/Object")] 2

/-- java/lang/Cloneable -/
def k6 : Class := { plain "java/lang/Cloneable" (some 0) with
  accessFlags := 1537
  interfaces := #[]
  cf := some (fileOf pool6 1 #[] #[] 1537 3 #[] #[])
  fields := #[]
  methods := #[]
  instanceTypes := #[]
  staticTypes := #[]
  resolved := Array.replicate 7 none
  statics := none }

def pool7 : Array CpInfo := pool [(1, u "java/io/Serializable"), (0, .class_ 1), (0, u "java/lang/Object"), (0, .class_ 3)] 3

/-- java/io/Serializable -/
def k7 : Class := { plain "java/io/Serializable" (some 0) with
  accessFlags := 1537
  interfaces := #[]
  cf := some (fileOf pool7 2 #[] #[] 1537 4 #[] #[])
  fields := #[]
  methods := #[]
  instanceTypes := #[]
  staticTypes := #[]
  resolved := Array.replicate 8 none
  statics := none }

/-- the primitive byte -/
def k8 : Class := { plain "byte" none with kind := .primitive 'B', accessFlags := 0x411 }
/-- [B -/
def k9 : Class := { plain "[B" (some 0) with kind := .array 8 .byte, interfaces := #[6, 7], accessFlags := 1041 }

/-- the primitive int -/
def k10 : Class := { plain "int" none with kind := .primitive 'I', accessFlags := 0x411 }
/-- [I -/
def k11 : Class := { plain "[I" (some 0) with kind := .array 10 .int, interfaces := #[6, 7], accessFlags := 1041 }

def heap : Heap := #[]
def classes : Array Class := #[k0, k1, k2, k3, k4, k5, k6, k7, k8, k9, k10, k11]
def interned : List (Array UInt16 × Addr) := []
def slotsUsed : Nat := 0
def theMethod : MethodId := ⟨1, 1⟩
def args0 : Array Value := #[.int 5, .int 300, .int 70000, .int 12, .int 3]
def aboutOver (below : List Frame) : State where
  vm := { classes := classes, interned := interned.toArray }
  heap := heap
  slotsUsed := slotsUsed
  threads := #[{ frames := .invoking theMethod args0 :: below }]
def below0 : List Frame := [.native { method := ⟨0, 0⟩, args := #[] }]
def about1 : State := aboutOver below0
def p0 : Program := .bare "" "" ""
def e0 : Env := launch0.env 0 0 0
theorem w_frames : about1.frames = Frame.invoking theMethod args0 :: below0 := rfl
set_option maxRecDepth 65536 in
theorem w_args : argsFit about1.vm theMethod args0 = true := by decide +kernel
set_option maxRecDepth 65536 in
theorem w_heap : heapFits about1 = true := by decide +kernel
set_option maxRecDepth 65536 in
theorem w_runnable : about1.curStatus? = some .runnable := by decide +kernel
set_option maxRecDepth 65536 in
theorem w_alone : about1.alone = true := by decide +kernel
set_option maxRecDepth 65536 in
theorem w_named : about1.methodNamed? x = some theMethod := by decide +kernel
set_option maxRecDepth 65536 in
theorem w_hears : about1.hears theMethod below0 = true := by decide +kernel
set_option maxRecDepth 65536 in
theorem w_ripe : about1.ripe theMethod args0 below0 = true := by decide +kernel
theorem w_running : about1.status = .running := rfl
set_option maxRecDepth 65536 in
theorem w_room : about1.hasRoom e0.platform room_1 = true :=
  launch0.hasRoom_least _ room_1 (by decide +kernel) (by decide +kernel) (by decide +kernel) (by decide +kernel) (by decide +kernel) (by decide +kernel)
theorem allAtoms_all (ts : List Jvm.Cond) (a : Array Jvm.Value) (st : Jvm.State) : (allAtoms ts).before a st = ts.all (fun c => c.before a st) := by
  induction ts with
  | nil => rfl
  | cons c t ih =>
    show (Jvm.Cond.and c (allAtoms t)).before a st = _
    rw [Jvm.Cond.before_and, ih, List.all_cons]
def words1 : List Jvm.Cond := Jvm.Cond.code x code maxLocals ret :: tables_1
/-- a 'code' word, met by the world's own term for the bytes: nothing is compared byte by byte -/
theorem code_word {y : MethodName} {bytes : ByteArray} {mx : Nat} {rt : Option FieldType} {a : Array Value} {s : State} {m : MethodId} {meth : Method} {c : Code} (h1 : s.methodNamed? y = some m) (h2 : s.vm.method? m = some meth) (h3 : meth.code = some c) (h4 : c.code = bytes)
    (h5 : (c.maxLocals == mx && c.exceptionTable.isEmpty && decide (c.maxStack ≤ mostOperands) && decide (meth.sig.returnType = rt) && !meth.locks && decide (parseMethodDescriptor y.desc = some meth.sig)) = true) : (Jvm.Cond.code y bytes mx rt).before a s = true := by
  simp only [Bool.and_eq_true, beq_iff_eq, Bool.not_eq_true', decide_eq_true_eq] at h5
  obtain ⟨⟨⟨⟨⟨g1, g2⟩, g3⟩, g4⟩, g5⟩, g6⟩ := h5
  simp [Cond.before, Cond.holds, Cond.value, h1, h2, h3, h4, g1, g2, g3, g4, g5, g6]
def isCode : Jvm.Cond → Bool
  | .code _ _ _ _ => true
  | _ => false
theorem all_split {L : List Jvm.Cond} {P : Jvm.Cond → Bool} (h1 : L.all (fun c => isCode c || P c) = true) (h2 : ∀ c ∈ L.filter isCode, P c = true) : L.all P = true := by
  refine List.all_eq_true.mpr fun c hc => ?_
  have h := List.all_eq_true.mp h1 c hc
  rcases Bool.eq_false_or_eq_true (isCode c) with hi | hi
  · exact h2 c (List.mem_filter.mpr ⟨hc, hi⟩)
  · simpa [hi] using h
set_option maxRecDepth 65536 in
theorem w_c0 : (Jvm.Cond.code x code maxLocals ret).before args0 about1 = true := code_word (m := ⟨1, 1⟩) (meth := k1m1) (c := k1c1) (by decide +kernel) rfl rfl rfl (by decide +kernel)
set_option maxRecDepth 65536 in
theorem w_c1 : (Jvm.Cond.code ({ cls := "java/lang/Math", name := "max", desc := "(II)I" } : Jvm.MethodName) jdk_29_method_65_code (2 : Nat) (Option.some Jvm.ClassFile.FieldType.int)).before args0 about1 = true := code_word (m := ⟨2, 1⟩) (meth := k2m1) (c := k2c1) (by decide +kernel) rfl rfl rfl (by decide +kernel)
set_option maxRecDepth 65536 in
theorem w_c2 : (Jvm.Cond.code ({ cls := "com/example/subjectory/subjectory/index/Postings", name := "<init>", desc := "(I)V" } : Jvm.MethodName) prog_24_method_1_code (2 : Nat) (Option.none : Option Jvm.ClassFile.FieldType)).before args0 about1 = true := code_word (m := ⟨3, 0⟩) (meth := k3m0) (c := k3c0) (by decide +kernel) rfl rfl rfl (by decide +kernel)
set_option maxRecDepth 65536 in
theorem w_c3 : (Jvm.Cond.code ({ cls := "java/lang/Object", name := "<init>", desc := "()V" } : Jvm.MethodName) object_method_1_code (1 : Nat) (Option.none : Option Jvm.ClassFile.FieldType)).before args0 about1 = true := code_word (m := ⟨0, 0⟩) (meth := k0m0) (c := k0c0) (by decide +kernel) rfl rfl rfl (by decide +kernel)
set_option maxRecDepth 65536 in
theorem w_c4 : (Jvm.Cond.code ({ cls := "com/example/subjectory/subjectory/index/Postings", name := "toValue", desc := "()[B" } : Jvm.MethodName) prog_24_method_4_code (1 : Nat) (Option.some (Jvm.ClassFile.FieldType.array Jvm.ClassFile.FieldType.byte))).before args0 about1 = true := code_word (m := ⟨3, 2⟩) (meth := k3m2) (c := k3c2) (by decide +kernel) rfl rfl rfl (by decide +kernel)
set_option maxRecDepth 65536 in
theorem w_c5 : (Jvm.Cond.code ({ cls := "java/util/Arrays", name := "copyOf", desc := "([BI)[B" } : Jvm.MethodName) jdk_65_method_121_code (3 : Nat) (Option.some (Jvm.ClassFile.FieldType.array Jvm.ClassFile.FieldType.byte))).before args0 about1 = true := code_word (m := ⟨4, 1⟩) (meth := k4m1) (c := k4c1) (by decide +kernel) rfl rfl rfl (by decide +kernel)
set_option maxRecDepth 65536 in
theorem w_c6 : (Jvm.Cond.code ({ cls := "java/lang/Math", name := "min", desc := "(II)I" } : Jvm.MethodName) jdk_29_method_69_code (2 : Nat) (Option.some Jvm.ClassFile.FieldType.int)).before args0 about1 = true := code_word (m := ⟨2, 2⟩) (meth := k2m2) (c := k2c2) (by decide +kernel) rfl rfl rfl (by decide +kernel)
set_option maxRecDepth 65536 in
theorem w_c7 : (Jvm.Cond.code ({ cls := "com/example/subjectory/subjectory/index/Postings", name := "ordinals", desc := "(I[B)[I" } : Jvm.MethodName) prog_24_method_6_code (11 : Nat) (Option.some (Jvm.ClassFile.FieldType.array Jvm.ClassFile.FieldType.int))).before args0 about1 = true := code_word (m := ⟨3, 4⟩) (meth := k3m4) (c := k3c4) (by decide +kernel) rfl rfl rfl (by decide +kernel)
set_option maxRecDepth 65536 in
theorem w_c8 : (Jvm.Cond.code ({ cls := "com/example/subjectory/subjectory/index/Postings", name := "count", desc := "([B)J" } : Jvm.MethodName) prog_24_method_5_code (7 : Nat) (Option.some Jvm.ClassFile.FieldType.long)).before args0 about1 = true := code_word (m := ⟨3, 3⟩) (meth := k3m3) (c := k3c3) (by decide +kernel) rfl rfl rfl (by decide +kernel)
set_option maxRecDepth 65536 in
theorem w_c9 : (Jvm.Cond.code ({ cls := "com/example/subjectory/subjectory/index/Postings", name := "add", desc := "(I)I" } : Jvm.MethodName) prog_24_method_3_code (4 : Nat) (Option.some Jvm.ClassFile.FieldType.int)).before args0 about1 = true := code_word (m := ⟨3, 1⟩) (meth := k3m1) (c := k3c1) (by decide +kernel) rfl rfl rfl (by decide +kernel)
set_option maxRecDepth 65536 in
theorem w_c10 : (Jvm.Cond.code ({ cls := "com/example/subjectory/subjectory/index/Postings", name := "append", desc := "(B)V" } : Jvm.MethodName) prog_24_method_7_code (2 : Nat) (Option.none : Option Jvm.ClassFile.FieldType)).before args0 about1 = true := code_word (m := ⟨3, 5⟩) (meth := k3m5) (c := k3c5) (by decide +kernel) rfl rfl rfl (by decide +kernel)
def codes1 : List Jvm.Cond := [Jvm.Cond.code x code maxLocals ret, Jvm.Cond.code ({ cls := "java/lang/Math", name := "max", desc := "(II)I" } : Jvm.MethodName) jdk_29_method_65_code (2 : Nat) (Option.some Jvm.ClassFile.FieldType.int), Jvm.Cond.code ({ cls := "com/example/subjectory/subjectory/index/Postings", name := "<init>", desc := "(I)V" } : Jvm.MethodName) prog_24_method_1_code (2 : Nat) (Option.none : Option Jvm.ClassFile.FieldType), Jvm.Cond.code ({ cls := "java/lang/Object", name := "<init>", desc := "()V" } : Jvm.MethodName) object_method_1_code (1 : Nat) (Option.none : Option Jvm.ClassFile.FieldType), Jvm.Cond.code ({ cls := "com/example/subjectory/subjectory/index/Postings", name := "toValue", desc := "()[B" } : Jvm.MethodName) prog_24_method_4_code (1 : Nat) (Option.some (Jvm.ClassFile.FieldType.array Jvm.ClassFile.FieldType.byte)), Jvm.Cond.code ({ cls := "java/util/Arrays", name := "copyOf", desc := "([BI)[B" } : Jvm.MethodName) jdk_65_method_121_code (3 : Nat) (Option.some (Jvm.ClassFile.FieldType.array Jvm.ClassFile.FieldType.byte)), Jvm.Cond.code ({ cls := "java/lang/Math", name := "min", desc := "(II)I" } : Jvm.MethodName) jdk_29_method_69_code (2 : Nat) (Option.some Jvm.ClassFile.FieldType.int), Jvm.Cond.code ({ cls := "com/example/subjectory/subjectory/index/Postings", name := "ordinals", desc := "(I[B)[I" } : Jvm.MethodName) prog_24_method_6_code (11 : Nat) (Option.some (Jvm.ClassFile.FieldType.array Jvm.ClassFile.FieldType.int)), Jvm.Cond.code ({ cls := "com/example/subjectory/subjectory/index/Postings", name := "count", desc := "([B)J" } : Jvm.MethodName) prog_24_method_5_code (7 : Nat) (Option.some Jvm.ClassFile.FieldType.long), Jvm.Cond.code ({ cls := "com/example/subjectory/subjectory/index/Postings", name := "add", desc := "(I)I" } : Jvm.MethodName) prog_24_method_3_code (4 : Nat) (Option.some Jvm.ClassFile.FieldType.int), Jvm.Cond.code ({ cls := "com/example/subjectory/subjectory/index/Postings", name := "append", desc := "(B)V" } : Jvm.MethodName) prog_24_method_7_code (2 : Nat) (Option.none : Option Jvm.ClassFile.FieldType)]
set_option maxRecDepth 65536 in
theorem codes_eq : words1.filter isCode = codes1 := rfl
theorem w_codes : ∀ c ∈ words1.filter isCode, c.before args0 about1 = true := by
  rw [codes_eq]
  intro c hc
  simp only [codes1, List.mem_cons, List.not_mem_nil, or_false] at hc
  rcases hc with rfl | rfl | rfl | rfl | rfl | rfl | rfl | rfl | rfl | rfl | rfl
  · exact w_c0
  · exact w_c1
  · exact w_c2
  · exact w_c3
  · exact w_c4
  · exact w_c5
  · exact w_c6
  · exact w_c7
  · exact w_c8
  · exact w_c9
  · exact w_c10
set_option maxRecDepth 65536 in
theorem w_t1 : (words1.take 24).all (fun c => isCode c || c.before args0 about1) = true := by decide +kernel
set_option maxRecDepth 65536 in
theorem w_t2 : ((words1.drop 24).take 24).all (fun c => isCode c || c.before args0 about1) = true := by decide +kernel
set_option maxRecDepth 65536 in
theorem w_t3 : ((words1.drop 24).drop 24).all (fun c => isCode c || c.before args0 about1) = true := by decide +kernel
theorem w_tables : (allAtoms (Jvm.Cond.code x code maxLocals ret :: tables_1)).before args0 about1 = true := by
  rw [allAtoms_all]
  show words1.all (fun c => c.before args0 about1) = true
  refine all_split ?_ w_codes
  rw [← List.take_append_drop 24 words1, List.all_append, w_t1, ← List.take_append_drop 24 (words1.drop 24), List.all_append, w_t2, w_t3]
  rfl
set_option maxRecDepth 65536 in
theorem w_case : (Jvm.Cond.and given_1 narrow_1).before args0 about1 = true := by decide +kernel
theorem w_applies : (headSpec (Jvm.Cond.code x code maxLocals ret :: tables_1) room_1).applies x e0.platform about1 = true :=
  (Spec.applies_iff w_frames).mpr ⟨w_running, w_runnable, w_alone, w_named, w_hears, w_ripe, w_room, w_tables⟩
theorem atStart : AtStart classFile x code maxLocals ret World_1 tables_1 room_1 Calls_1 rest_1 Pre_1 launch0 p0 e0 about1 theMethod args0 below0 :=
  ⟨lists_1, trivial, launch0.admits_env _ _ _, launch0.least_env, fairChoices_fair.cas, fairChoices_fair.clock, w_frames, w_args, w_heap, w_applies, trivial, trivial, w_case⟩
end start1
theorem witness_1 : WitnessClaimed_1 := ⟨start1.p0, start1.e0, start1.about1, start1.theMethod, start1.args0, start1.below0, start1.atStart⟩
end Jvm.Pilot.@@N@@
