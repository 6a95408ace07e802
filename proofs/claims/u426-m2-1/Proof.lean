import JvmDerived
import JvmDerived.Pilot.@@N@@Statement
import JvmDerived.Pilot.@@N@@Code
set_option linter.unusedVariables false
set_option linter.unusedSimpArgs false
namespace Jvm.RoadKit
open Sem ClassFile Op Lib Jvm.Stand Jvm.Free Jvm.LawKit
section New
variable {p : Program} {l : Launch} {e : Env} {R : Room} {s : State} {m : MethodId} {args : Array Value} {below : List Frame} {meth : Method} {c : Code} {T : State} {locs : List Loc} {cells slots : Nat}
theorem retI (X : Stand p l e R s m args below meth c T locs cells slots) (hx : p.tables.exec = Jvm.exec) {pc : Nat} {Ls : Array Slot} {z : Int32} {rest : List Value} (hret : meth.sig.returnType = some .int) (hd : decode c.code pc = .ok (.ireturn, 1)) {fs : List Frame}
    (hl : ∀ (f : JFrame) (acts : List Action), f.method = m → f.locked = none → f.entered = [] → (doReturn e (T.setTop f) acts (some (.int z))).1 = T.setFrames fs) : Steps p.tables e below (T.setTop (mkF m pc Ls (.int z :: rest))) (T.setFrames fs) := by
  have hm' : T.vm.method? m = some meth := X.method'
  have hn : narrow .int (.int z) = .int z := rfl
  show Steps p.tables e below (T.setTop { method := m, pc := pc, locals := Ls, stack := _ :: rest, locked := none }) _
  jvm_step X.here [X.here.top, hx, hd, hm', hret, hn]
  first | (intro acts; rw [hl _ acts rfl rfl rfl]) | rw [hl _ _ rfl rfl rfl]
  exact Steps.refl _
/-- a run from A that ends in an outcome with P -/
def Gl (tb : Tables) (e : Env) (below : List Frame) (P : Outcome → State → Prop) (A : State) : Prop := ∃ s₂ o, Steps tb e below A s₂ ∧ s₂.status = .running ∧ Ended s₂ below o ∧ P o s₂
theorem Gl.pre {tb : Tables} {e : Env} {below : List Frame} {P : Outcome → State → Prop} {A B : State} (h : ∀ t, Steps tb e below B t → Steps tb e below A t) (g : Gl tb e below P B) : Gl tb e below P A := by
  obtain ⟨s2, o, h1, r⟩ := g; exact ⟨s2, o, h _ h1, r⟩
theorem own_finI (X : Stand p l e R s m args below meth c T locs cells slots) (hx : p.tables.exec = Jvm.exec) (hlk : meth.locks = false) {pc : Nat} {Ls : Array Slot} {z : Int32} {rest : List Value} (hret : meth.sig.returnType = some .int) (hd : decode c.code pc = .ok (.ireturn, 1)) {Q : Option Value → Heap → List Loc → Prop} {C S : Nat}
    (hq : Q (some (.int z)) T.heap locs) (hc : cells ≤ C) (hs : slots ≤ S) : Gl p.tables e below (fun o U' => ∃ v L, o = .returned v ∧ Q v U'.heap L ∧ FrameEnd s o U' L C S) (T.setTop (mkF m pc Ls (.int z :: rest))) := by
  obtain ⟨fs, hr, hrun, hended, hW, hsame⟩ := X.leave (v := some (.int z)) (fun h => by rw [hret] at h; cases h) hlk
  exact ⟨_, _, retI X hx hret hd hr, hrun, hended, _, _, rfl, hq, ⟨_, rfl⟩, hW, hsame.mono hc hs⟩
theorem own_finN (X : Stand p l e R s m args below meth c T locs cells slots) (hx : p.tables.exec = Jvm.exec) (hlk : meth.locks = false) {pc : Nat} {Ls : Array Slot} {z z' : Int32} {rest : List Value} {t : FieldType} (hret : meth.sig.returnType = some t) (ht : t = .boolean ∨ t = .byte ∨ t = .char ∨ t = .short) (hz : nar t z = z') (hd : decode c.code pc = .ok (.ireturn, 1)) {Q : Option Value → Heap → List Loc → Prop} {C S : Nat}
    (hq : Q (some (.int z')) T.heap locs) (hc : cells ≤ C) (hs : slots ≤ S) : Gl p.tables e below (fun o U' => ∃ v L, o = .returned v ∧ Q v U'.heap L ∧ FrameEnd s o U' L C S) (T.setTop (mkF m pc Ls (.int z :: rest))) := by
  subst hz
  obtain ⟨fs, hr, hrun, hended, hW, hsame⟩ := X.leave (v := some (.int (nar t z))) (fun h => by rw [hret] at h; cases h) hlk
  exact ⟨_, _, retN X hx hret ht hd hr, hrun, hended, _, _, rfl, hq, ⟨_, rfl⟩, hW, hsame.mono hc hs⟩
theorem own_finV (X : Stand p l e R s m args below meth c T locs cells slots) (hx : p.tables.exec = Jvm.exec) (hlk : meth.locks = false) {pc : Nat} {Ls : Array Slot} (hret : meth.sig.returnType = none) (hd : decode c.code pc = .ok (.return_, 1)) {Q : Option Value → Heap → List Loc → Prop} {C S : Nat}
    (hq : Q none T.heap locs) (hc : cells ≤ C) (hs : slots ≤ S) : Gl p.tables e below (fun o U' => ∃ v L, o = .returned v ∧ Q v U'.heap L ∧ FrameEnd s o U' L C S) (T.setTop (mkF m pc Ls [])) := by
  obtain ⟨fs, hr, hrun, hended, hW, hsame⟩ := X.leave (v := none) (fun _ => rfl) hlk
  exact ⟨_, _, X.returnOut hx hret hd hr, hrun, hended, _, _, rfl, hq, ⟨_, rfl⟩, hW, hsame.mono hc hs⟩
theorem own_finA (X : Stand p l e R s m args below meth c T locs cells slots) (hx : p.tables.exec = Jvm.exec) (hlk : meth.locks = false) {pc : Nat} {Ls : Array Slot} {w : Value} {rest : List Value} {t : FieldType} (hret : meth.sig.returnType = some t) (hw : w.isRef = true) (ht : t.isReference = true) (hd : decode c.code pc = .ok (.areturn, 1)) {Q : Option Value → Heap → List Loc → Prop} {C S : Nat}
    (hq : Q (some w) T.heap locs) (hc : cells ≤ C) (hs : slots ≤ S) : Gl p.tables e below (fun o U' => ∃ v L, o = .returned v ∧ Q v U'.heap L ∧ FrameEnd s o U' L C S) (T.setTop (mkF m pc Ls (w :: rest))) := by
  obtain ⟨fs, hr, hrun, hended, hW, hsame⟩ := X.leave (v := some w) (fun h => by rw [hret] at h; cases h) hlk
  have hn : narrow t w = w := by rcases ref_cases hw with rfl | ⟨z, rfl⟩ <;> cases t <;> rfl
  exact ⟨_, _, retOut X hx hret hn (Or.inr (Or.inr (Or.inr (Or.inr ⟨rfl, ht, hw⟩)))) hd hr, hrun, hended, _, _, rfl, hq, ⟨_, rfl⟩, hW, hsame.mono hc hs⟩
/-- Java's >>> -/
def own_ushr (x y : Int32) : Int32 := (x.toUInt32 >>> (y &&& 31).toUInt32).toInt32
def own_ushrL (x : Int64) (y : Int32) : Int64 := (x.toUInt64 >>> (y &&& 0x3f).toInt64.toUInt64).toInt64
/-- 1 where P holds, else 0 -/
def own_pi (P : Prop) [Decidable P] : Int32 := if P then 1 else 0
theorem own_pi_t {P : Prop} [Decidable P] (h : P) : own_pi P = 1 := if_pos h
theorem own_pi_f {P : Prop} [Decidable P] (h : ¬ P) : own_pi P = 0 := if_neg h
theorem own_pi_nt {P : Prop} [Decidable P] (h : P) : own_pi (¬ P) = 0 := if_neg (fun q => q h)
theorem own_pi_nf {P : Prop} [Decidable P] (h : ¬ P) : own_pi (¬ P) = 1 := if_pos h
theorem own_pi0 {P : Prop} [Decidable P] : own_pi P = 0 ↔ ¬ P := by unfold own_pi; split <;> simp_all
theorem own_pi_eq {P Q : Prop} [Decidable P] [Decidable Q] (h : P ↔ Q) : own_pi P = own_pi Q := by unfold own_pi; simp [h]
theorem own_nar_pi {P : Prop} [i : Decidable P] : nar .boolean (@own_pi P i) = @own_pi P i := by unfold own_pi; split <;> decide
end New
/-- the array at a (of kind ty) holds the ints xs -/
def Bal (Z : State) (h : Heap) (a : Addr) (ty : FieldType) (xs : List Int32) : Prop := ∃ c : Cell, Arr Z h a c ty ∧ c.slots.size = xs.length ∧ ∀ i, i < xs.length → c.slots[i]? = some (.int (xs.getD i 0))
section Arrays
variable {Z : State} {h h' : Heap} {a b : Addr} {ty : FieldType} {xs : List Int32} {ws : List Addr}
theorem Bal.lt (F : Bal Z h a ty xs) : a < h.size := by obtain ⟨c, A, -⟩ := F; exact A.lt
theorem Bal.ext (F : Bal Z h a ty xs) (E : Ext h h') : Bal Z h' a ty xs := by obtain ⟨c, A, r⟩ := F; exact ⟨c, A.ext E, r⟩
theorem Bal.other {sl : Nat} {v : Value} (F : Bal Z h b ty xs) (W : Wr h h' a sl v) (q : b ≠ a) : Bal Z h' b ty xs := by obtain ⟨c, A, r⟩ := F; exact ⟨c, A.other W q, r⟩
theorem Bal.keep (F : Bal Z h a ty xs) (K : Keep h h' ws) (q : a ∉ ws) : Bal Z h' a ty xs := by obtain ⟨c, A, r⟩ := F; exact ⟨c, ⟨K.2.1 a c A.1 q, A.2⟩, r⟩
theorem Bal.new {k : ClassId} {z : Int32} {n : Nat} (A : Arr Z h a (newA k ty z) ty) (hz : z.toNatClampNeg = n) (hd : defaultValue ty = .int 0) : Bal Z h a ty (List.replicate n 0) := by
  subst hz
  refine ⟨_, A, by rw [sz_new, List.length_replicate], fun i hi => ?_⟩
  rw [List.length_replicate] at hi
  simp [newA, hd, hi, List.getD_eq_getElem?_getD]
theorem Bal.set {i : Nat} {v : Int32} (F : Bal Z h a ty xs) (W : Wr h h' a i (.int v)) (hi : i < xs.length) : Bal Z h' a ty (xs.set i v) := by
  obtain ⟨c, A, S, H⟩ := F
  refine ⟨_, A.same W, by rw [sz_set, S, List.length_set], fun k hk => ?_⟩
  rw [List.length_set] at hk
  show (c.slots.setIfInBounds i (.int v))[k]? = _
  rw [Array.getElem?_setIfInBounds, List.getD_eq_getElem?_getD, List.getElem?_set]
  by_cases q : i = k
  · subst q; simp [S, hk]
  · rw [if_neg q, if_neg q, ← List.getD_eq_getElem?_getD]; exact H k hk
theorem Bal.inb {c : Cell} {j : Int32} {i : Nat} (S : c.slots.size = xs.length) (h0 : ¬ j < 0) (hj : j.toNatClampNeg = i) (hi : i < xs.length) : ¬ (j < 0 ∨ c.slots.size ≤ j.toNatClampNeg) := by
  rintro (q | q)
  · exact h0 q
  · omega
variable {p : Program} {l : Launch} {e : Env} {R : Room} {s : State} {m : MethodId} {args : Array Value} {below : List Frame} {meth : Method} {c : Code} {T : State} {locs : List Loc} {cells slots : Nat}
theorem own_stB (X : Stand p l e R s m args below meth c T locs cells slots) (hx : p.tables.exec = Jvm.exec) (hZ : Z.Warmed39 s.vm) (eT : T.heap = h) (F : Bal Z h a .byte xs) {j x : Int32} {i : Nat} (h0 : ¬ j < 0) (hj : j.toNatClampNeg = i) (hi : i < xs.length) {g : JFrame} (hg : g.method = m) {rest : List Value} (hs : g.stack = .int x :: .int j :: .ref a :: rest) (hd : decode c.code g.pc = .ok (.bastore, 1)) :
    ∃ T' h', Stand p l e R s m args below meth c T' (locs ++ [⟨a, i⟩]) cells slots ∧ T'.heap = h' ∧ Wr h h' a i (.int (nar .byte x)) ∧ Bal Z h' a .byte (xs.set i (nar .byte x)) ∧ ∀ target, Steps p.tables e below (T'.setTop { g with pc := g.pc + 1, stack := rest }) target → Steps p.tables e below (T.setTop g) target := by
  have F' := F
  obtain ⟨cl, A, S, H⟩ := F
  obtain ⟨T', h', X', e', W, st⟩ := stB X hx hZ eT A (j := j) (Bal.inb S h0 hj hi) hg hs hd
  subst hj
  exact ⟨T', h', X', e', W, F'.set W hi, st⟩
theorem own_stC (X : Stand p l e R s m args below meth c T locs cells slots) (hx : p.tables.exec = Jvm.exec) (hZ : Z.Warmed39 s.vm) (eT : T.heap = h) (F : Bal Z h a .char xs) {j x : Int32} {i : Nat} (h0 : ¬ j < 0) (hj : j.toNatClampNeg = i) (hi : i < xs.length) {g : JFrame} (hg : g.method = m) {rest : List Value} (hs : g.stack = .int x :: .int j :: .ref a :: rest) (hd : decode c.code g.pc = .ok (.castore, 1)) :
    ∃ T' h', Stand p l e R s m args below meth c T' (locs ++ [⟨a, i⟩]) cells slots ∧ T'.heap = h' ∧ Wr h h' a i (.int (nar .char x)) ∧ Bal Z h' a .char (xs.set i (nar .char x)) ∧ ∀ target, Steps p.tables e below (T'.setTop { g with pc := g.pc + 1, stack := rest }) target → Steps p.tables e below (T.setTop g) target := by
  have F' := F
  obtain ⟨cl, A, S, H⟩ := F
  obtain ⟨T', h', X', e', W, st⟩ := stC X hx hZ eT A (j := j) (Bal.inb S h0 hj hi) hg hs hd
  subst hj
  exact ⟨T', h', X', e', W, F'.set W hi, st⟩
theorem own_ldB (X : Stand p l e R s m args below meth c T locs cells slots) (hx : p.tables.exec = Jvm.exec) (hZ : Z.Warmed39 s.vm) (eT : T.heap = h) (F : Bal Z h a .byte xs) {j : Int32} {i : Nat} (h0 : ¬ j < 0) (hj : j.toNatClampNeg = i) (hi : i < xs.length) {v : Int32} (hv : xs.getD i 0 = v) {g : JFrame} (hg : g.method = m) {rest : List Value} (hs : g.stack = .int j :: .ref a :: rest) (hd : decode c.code g.pc = .ok (.baload, 1)) (target : State)
    (k : Steps p.tables e below (T.setTop { g with pc := g.pc + 1, stack := .int v :: rest }) target) : Steps p.tables e below (T.setTop g) target := by
  obtain ⟨cl, A, S, H⟩ := F
  subst hv
  exact X.baloadBytes hx (j := j) (v := .int (xs.getD i 0)) (by rw [eT]; exact A.1) (State.isArrayOf_alike hZ.alike A.2.1) A.2.2 (Bal.inb S h0 hj hi) (by rw [hj]; exact H i hi) hg hs hd _ k
theorem own_ldC (X : Stand p l e R s m args below meth c T locs cells slots) (hx : p.tables.exec = Jvm.exec) (hZ : Z.Warmed39 s.vm) (eT : T.heap = h) (F : Bal Z h a .char xs) {j : Int32} {i : Nat} (h0 : ¬ j < 0) (hj : j.toNatClampNeg = i) (hi : i < xs.length) {v : Int32} (hv : xs.getD i 0 = v) {g : JFrame} (hg : g.method = m) {rest : List Value} (hs : g.stack = .int j :: .ref a :: rest) (hd : decode c.code g.pc = .ok (.caload, 1)) (target : State)
    (k : Steps p.tables e below (T.setTop { g with pc := g.pc + 1, stack := .int v :: rest }) target) : Steps p.tables e below (T.setTop g) target := by
  obtain ⟨cl, A, S, H⟩ := F
  subst hv
  exact X.caload hx (j := j) (v := .int (xs.getD i 0)) (by rw [eT]; exact A.1) (State.isArrayOf_alike hZ.alike A.2.1) A.2.2 (Bal.inb S h0 hj hi) (by rw [hj]; exact H i hi) hg hs hd _ k
theorem own_len (X : Stand p l e R s m args below meth c T locs cells slots) (hx : p.tables.exec = Jvm.exec) (hZ : Z.Warmed39 s.vm) (eT : T.heap = h) (F : Bal Z h a ty xs) {v : Int32} (hv : xs.length.toInt32 = v) {g : JFrame} (hg : g.method = m) {rest : List Value} (hs : g.stack = .ref a :: rest) (hd : decode c.code g.pc = .ok (.arraylength, 1)) (target : State)
    (k : Steps p.tables e below (T.setTop { g with pc := g.pc + 1, stack := .int v :: rest }) target) : Steps p.tables e below (T.setTop g) target := by
  obtain ⟨cl, A, S, H⟩ := F
  subst hv
  refine X.arraylength hx (by rw [eT]; exact A.1) (State.isArrayOf_alike hZ.alike A.2.1) hg hs hd _ ?_
  rw [S]; exact k
theorem own_balOf {k : ClassId} {z : Int32} (F : Arv Z h a k .byte z (xs.map Value.int) (.int 0)) (hz : z.toNatClampNeg = xs.length) : Bal Z h a .byte xs := by
  obtain ⟨c, A, -, S, -, H, -⟩ := F
  refine ⟨c, A, by rw [S, hz], fun i hi => ?_⟩
  have q := H i (by rw [S, hz]; exact hi)
  rw [q]
  simp [List.getD_eq_getElem?_getD, List.getElem?_map, List.getElem?_eq_getElem hi]
theorem own_arvC (F : Bal Z h a .char xs) (hf : ∀ x ∈ xs, fits .char (.int x) = true) (hl : xs.length < 2 ^ 31) : ∃ k, Arv Z h a k .char (Int32.ofNat xs.length) (xs.map Value.int) (.int 0) := by
  obtain ⟨c, A, S, H⟩ := F
  have hi : (Int32.ofNat xs.length).toInt = xs.length := Int32.toInt_ofNat_of_lt hl
  refine ⟨c.cls, c, A, rfl, ?_, ?_, ?_, ?_⟩
  · rw [S, Int32.toNatClampNeg, hi]; rfl
  · rw [Int32.lt_iff_toInt_lt, hi, show (0 : Int32).toInt = 0 from rfl]; omega
  · intro i hi'
    rw [S] at hi'
    rw [H i hi']
    simp [List.getD_eq_getElem?_getD, List.getElem?_map, List.getElem?_eq_getElem hi']
  · intro i hi'
    rw [S] at hi'
    have : (xs.map Value.int).getD i (.int 0) = .int xs[i] := by simp [List.getD_eq_getElem?_getD, List.getElem?_map, List.getElem?_eq_getElem hi']
    rw [this]; exact hf _ (List.getElem_mem hi')
theorem own_piN {P : Prop} [Decidable P] : (¬ own_pi P = 0) ↔ P := by unfold own_pi; split <;> simp_all
end Arrays
section Wide
variable {p : Program} {l : Launch} {e : Env} {R : Room} {s Z : State} {EL : List (String × Nat)} {vm0 : Vm} {k0 : Nat} {m : MethodId} {args : Array Value} {below : List Frame} {meth : Method} {c : Code} {T : State} {locs : List Loc} {cells slots : Nat}
theorem own_monoW {t : State} {o : Outcome} {L : List Loc} {k n k' n' : Nat} (h : ReturnedEndW s o t L k n) (hk : k ≤ k') (hn : n ≤ n') : ReturnedEndW s o t L k' n' := ⟨h.1, h.2.1, h.2.2.1, h.2.2.2.mono hk hn⟩
theorem own_finIW (X : Stand p l e R (s.setVm vm0) m args below meth c T locs cells slots) (hx : p.tables.exec = Jvm.exec) (hlk : meth.locks = false) (hS : s.Since vm0 k0) (hk : k0 ≤ T.heap.size) {pc : Nat} {Ls : Array Slot} {z : Int32} {rest : List Value} (hret : meth.sig.returnType = some .int) (hd : decode c.code pc = .ok (.ireturn, 1)) {Q : Option Value → Heap → List Loc → Prop} {C S : Nat}
    (hq : Q (some (.int z)) T.heap locs) (hC : CHr Z EL s.vm s.heap T.vm T.heap) (hc : cells ≤ C) (hs : slots ≤ S) : Gl p.tables e below (fun o U' => ∃ v L, o = .returned v ∧ Q v U'.heap L ∧ CHr Z EL s.vm s.heap U'.vm U'.heap ∧ ReturnedEndW s o U' L C S) (T.setTop (mkF m pc Ls (.int z :: rest))) := by
  obtain ⟨fs, hr, hrun, hended, hW⟩ := X.leaveW hS hk (v := some (.int z)) (fun h => by rw [hret] at h; cases h) hlk
  exact ⟨_, _, retI X hx hret hd hr, hrun, hended, _, _, rfl, hq, hC, own_monoW hW hc hs⟩
theorem own_finNW (X : Stand p l e R (s.setVm vm0) m args below meth c T locs cells slots) (hx : p.tables.exec = Jvm.exec) (hlk : meth.locks = false) (hS : s.Since vm0 k0) (hk : k0 ≤ T.heap.size) {pc : Nat} {Ls : Array Slot} {z z' : Int32} {rest : List Value} {t : FieldType} (hret : meth.sig.returnType = some t) (ht : t = .boolean ∨ t = .byte ∨ t = .char ∨ t = .short) (hz : nar t z = z') (hd : decode c.code pc = .ok (.ireturn, 1)) {Q : Option Value → Heap → List Loc → Prop} {C S : Nat}
    (hq : Q (some (.int z')) T.heap locs) (hC : CHr Z EL s.vm s.heap T.vm T.heap) (hc : cells ≤ C) (hs : slots ≤ S) : Gl p.tables e below (fun o U' => ∃ v L, o = .returned v ∧ Q v U'.heap L ∧ CHr Z EL s.vm s.heap U'.vm U'.heap ∧ ReturnedEndW s o U' L C S) (T.setTop (mkF m pc Ls (.int z :: rest))) := by
  subst hz
  obtain ⟨fs, hr, hrun, hended, hW⟩ := X.leaveW hS hk (v := some (.int (nar t z))) (fun h => by rw [hret] at h; cases h) hlk
  exact ⟨_, _, retN X hx hret ht hd hr, hrun, hended, _, _, rfl, hq, hC, own_monoW hW hc hs⟩
theorem own_finVW (X : Stand p l e R (s.setVm vm0) m args below meth c T locs cells slots) (hx : p.tables.exec = Jvm.exec) (hlk : meth.locks = false) (hS : s.Since vm0 k0) (hk : k0 ≤ T.heap.size) {pc : Nat} {Ls : Array Slot} (hret : meth.sig.returnType = none) (hd : decode c.code pc = .ok (.return_, 1)) {Q : Option Value → Heap → List Loc → Prop} {C S : Nat}
    (hq : Q none T.heap locs) (hC : CHr Z EL s.vm s.heap T.vm T.heap) (hc : cells ≤ C) (hs : slots ≤ S) : Gl p.tables e below (fun o U' => ∃ v L, o = .returned v ∧ Q v U'.heap L ∧ CHr Z EL s.vm s.heap U'.vm U'.heap ∧ ReturnedEndW s o U' L C S) (T.setTop (mkF m pc Ls [])) := by
  obtain ⟨fs, hr, hrun, hended, hW⟩ := X.leaveW hS hk (v := none) (fun _ => rfl) hlk
  exact ⟨_, _, X.returnOut hx hret hd hr, hrun, hended, _, _, rfl, hq, hC, own_monoW hW hc hs⟩
theorem own_finAW (X : Stand p l e R (s.setVm vm0) m args below meth c T locs cells slots) (hx : p.tables.exec = Jvm.exec) (hlk : meth.locks = false) (hS : s.Since vm0 k0) (hk : k0 ≤ T.heap.size) {pc : Nat} {Ls : Array Slot} {w : Value} {rest : List Value} {t : FieldType} (hret : meth.sig.returnType = some t) (hw : w.isRef = true) (ht : t.isReference = true) (hd : decode c.code pc = .ok (.areturn, 1)) {Q : Option Value → Heap → List Loc → Prop} {C S : Nat}
    (hq : Q (some w) T.heap locs) (hC : CHr Z EL s.vm s.heap T.vm T.heap) (hc : cells ≤ C) (hs : slots ≤ S) : Gl p.tables e below (fun o U' => ∃ v L, o = .returned v ∧ Q v U'.heap L ∧ CHr Z EL s.vm s.heap U'.vm U'.heap ∧ ReturnedEndW s o U' L C S) (T.setTop (mkF m pc Ls (w :: rest))) := by
  obtain ⟨fs, hr, hrun, hended, hW⟩ := X.leaveW hS hk (v := some w) (fun h => by rw [hret] at h; cases h) hlk
  have hn : narrow t w = w := by rcases ref_cases hw with rfl | ⟨z, rfl⟩ <;> cases t <;> rfl
  exact ⟨_, _, retOut X hx hret hn (Or.inr (Or.inr (Or.inr (Or.inr ⟨rfl, ht, hw⟩)))) hd hr, hrun, hended, _, _, rfl, hq, hC, own_monoW hW hc hs⟩
/-- a callee that keeps the constants' invariant; SL: objects that it may write, none of them a constant's -/
theorem own_backH {a0 : Array Value} {h : Heap} {y : MethodName} {bytes : ByteArray} {maxL : Nat} {ret : Option FieldType} {rm : Room} {len W : Nat} {as' : Array Value} {Q : Option Value → Heap → List Loc → Prop} {SL : List Addr}
    (hM : MetFree l y (head1 [Cond.code y bytes maxL ret] rm) (fun a U => a = as' ∧ Z.Warmed39 U.vm ∧ U.heap = h ∧ CHv Z EL U.vm h ∧ ∀ x ∈ SL, Safe Z EL U.vm h x) (fun _ _ _ _ _ => True) (fun _ U o U' => ∃ v L, o = .returned v ∧ Q v U'.heap L ∧ CHr Z EL U.vm U.heap U'.vm U'.heap ∧ ReturnedEndW U o U' L rm.cells rm.slots))
    (hZ : Z.Warmed39 vm0) (wc : (Cond.code y bytes maxL ret).before a0 Z = true) (wz : (Cond.initialized y.cls).before a0 Z = true) (hf : rm.frames + 1 ≤ R.frames) (hl : W + (maxL + 11) + rm.locals ≤ R.locals) (hEL : EW Z a0 EL) (H : CHv Z EL vm0 h) (hSL : ∀ x ∈ SL, x < h.size ∧ Safe Z EL vm0 h x) :
    BackS l R p e below (s.setVm vm0) args y len W (fun A a => a = as' ∧ A.U.heap = h ∧ A.cells + rm.cells ≤ R.cells ∧ A.slots + rm.slots ≤ R.slots)
      (fun A _ v B => ∃ L, Q v B.U.heap L ∧ B.locs = A.locs ++ L ∧ B.cells = A.cells + rm.cells ∧ B.slots = A.slots + rm.slots ∧ CHr Z EL vm0 h B.U.vm B.U.heap) := by
  refine BackS.of_freeW (bytes := bytes) (maxL := maxL) (ret := ret) (E := fun _ first o t L k n => k = rm.cells ∧ n = rm.slots ∧ (∃ v, o = .returned v ∧ Q v t.heap L) ∧ CHr Z EL first.vm first.heap t.vm t.heap) hM hf hl ?_ ?_ (fun _ _ _ _ _ _ _ _ _ => trivial) (fun _ _ _ _ ⟨v, L, h1, h2, h3, h4⟩ => ⟨L, _, _, h4, rfl, rfl, ⟨v, h1, h2⟩, h3⟩) ?_
  · intro m meth c A a Y hp
    have hU : Z.Warmed39 A.U.vm := wtrans (s := s.setVm vm0) hZ Y.warmed
    refine ⟨?_, mv hU wc, mv hU wz, hp.2.2.1, hp.2.2.2⟩
    show (Cond.and _ .tt).before a A.U = true
    rw [Cond.before_and, mv hU wc]; rfl
  · intro m meth c A a g mk Y hp
    have q := CHv.at Y hZ hEL H
    exact ⟨hp.1, wtrans (s := s.setVm vm0) hZ Y.warmed, hp.2.1, q.1, fun x hx => q.safe (hSL x hx).1 (hSL x hx).2⟩
  · rintro m meth c A a g mk v t L k n Y hp _ _ ⟨e1, e2, ⟨v', e3, e4⟩, e5⟩
    cases e3; subst e1 e2
    refine ⟨L, e4, rfl, rfl, rfl, (CHv.at Y hZ hEL H).trans ?_⟩
    rw [← hp.2.1]; exact e5
end Wide
theorem own_fits_pi {P : Prop} [i : Decidable P] : fits .boolean (.int (@own_pi P i)) = true := by unfold own_pi; split <;> rfl
/-- the array at a, of the class k over C, holds the values vs -/
def Ral (Z : State) (h : Heap) (a : Addr) (k : ClassId) (C : String) (vs : List Value) : Prop := ∃ c : Cell, Arr Z h a c (.object C) ∧ c.cls = k ∧ c.slots.size = vs.length ∧ ∀ i, i < vs.length → c.slots[i]? = some (vs.getD i .null)
section Refs
variable {Z : State} {h h' : Heap} {a b : Addr} {k : ClassId} {C : String} {vs : List Value} {ws : List Addr}
theorem Ral.lt (F : Ral Z h a k C vs) : a < h.size := by obtain ⟨c, A, -⟩ := F; exact A.lt
theorem Ral.ext (F : Ral Z h a k C vs) (E : Ext h h') : Ral Z h' a k C vs := by obtain ⟨c, A, r⟩ := F; exact ⟨c, A.ext E, r⟩
theorem Ral.other {sl : Nat} {v : Value} (F : Ral Z h b k C vs) (W : Wr h h' a sl v) (q : b ≠ a) : Ral Z h' b k C vs := by obtain ⟨c, A, r⟩ := F; exact ⟨c, A.other W q, r⟩
theorem Ral.keep (F : Ral Z h a k C vs) (K : Keep h h' ws) (q : a ∉ ws) : Ral Z h' a k C vs := by obtain ⟨c, A, r⟩ := F; exact ⟨c, ⟨K.2.1 a c A.1 q, A.2⟩, r⟩
theorem Ral.new {z : Int32} {n : Nat} (A : Arr Z h a (newA k (.object C) z) (.object C)) (hz : z.toNatClampNeg = n) : Ral Z h a k C (List.replicate n .null) := by
  subst hz
  refine ⟨_, A, rfl, by rw [sz_new, List.length_replicate], fun i hi => ?_⟩
  rw [List.length_replicate] at hi
  simp [newA, defaultValue, hi, List.getD_eq_getElem?_getD]
theorem Ral.set {i : Nat} {v : Value} (F : Ral Z h a k C vs) (W : Wr h h' a i v) (hi : i < vs.length) : Ral Z h' a k C (vs.set i v) := by
  obtain ⟨c, A, q0, S, H⟩ := F
  refine ⟨_, A.same W, q0, by rw [sz_set, S, List.length_set], fun k hk => ?_⟩
  rw [List.length_set] at hk
  show (c.slots.setIfInBounds i v)[k]? = _
  rw [Array.getElem?_setIfInBounds, List.getD_eq_getElem?_getD, List.getElem?_set]
  by_cases q : i = k
  · subst q; simp [S, hk]
  · rw [if_neg q, if_neg q, ← List.getD_eq_getElem?_getD]; exact H k hk
variable {p : Program} {l : Launch} {e : Env} {R : Room} {s : State} {m : MethodId} {args : Array Value} {below : List Frame} {meth : Method} {c : Code} {T : State} {locs : List Loc} {cells slots : Nat}
theorem own_stR (X : Stand p l e R s m args below meth c T locs cells slots) (hx : p.tables.exec = Jvm.exec) (hZ : Z.Warmed39 s.vm) (eT : T.heap = h) (F : Ral Z h a k C vs) (O : Ovr Z k C) {y : Addr} (I : Ins Z h y C true) {j : Int32} {i : Nat} (h0 : ¬ j < 0) (hj : j.toNatClampNeg = i) (hi : i < vs.length) {g : JFrame} (hg : g.method = m) {rest : List Value} (hs : g.stack = .ref y :: .int j :: .ref a :: rest) (hd : decode c.code g.pc = .ok (.aastore, 1)) :
    ∃ T' h', Stand p l e R s m args below meth c T' (locs ++ [⟨a, i⟩]) cells slots ∧ T'.heap = h' ∧ Wr h h' a i (.ref y) ∧ Ral Z h' a k C (vs.set i (.ref y)) ∧ ∀ target, Steps p.tables e below (T'.setTop { g with pc := g.pc + 1, stack := rest }) target → Steps p.tables e below (T.setTop g) target := by
  have F' := F
  obtain ⟨cl, A, q0, S, H⟩ := F
  have hin : ¬ (j < 0 ∨ cl.slots.size ≤ j.toNatClampNeg) := by
    rintro (q | q)
    · exact h0 q
    · omega
  subst q0
  obtain ⟨T', h', X', e', W, st⟩ := stR X hx hZ eT A (j := j) hin rfl (Sto.of A O I) hg hs hd
  subst hj
  exact ⟨T', h', X', e', W, F'.set W hi, st⟩
theorem own_ldR (X : Stand p l e R s m args below meth c T locs cells slots) (hx : p.tables.exec = Jvm.exec) (hZ : Z.Warmed39 s.vm) (eT : T.heap = h) (F : Ral Z h a k C vs) {j : Int32} {i : Nat} (h0 : ¬ j < 0) (hj : j.toNatClampNeg = i) (hi : i < vs.length) {v : Value} (hv : vs.getD i .null = v) {g : JFrame} (hg : g.method = m) {rest : List Value} (hs : g.stack = .int j :: .ref a :: rest) (hd : decode c.code g.pc = .ok (.aaload, 1)) (target : State)
    (kk : Steps p.tables e below (T.setTop { g with pc := g.pc + 1, stack := v :: rest }) target) : Steps p.tables e below (T.setTop g) target := by
  obtain ⟨cl, A, q0, S, H⟩ := F
  have hin : ¬ (j < 0 ∨ cl.slots.size ≤ j.toNatClampNeg) := by
    rintro (q | q)
    · exact h0 q
    · omega
  subst hv
  exact X.aaload hx (j := j) (v := vs.getD i .null) (by rw [eT]; exact A.1) (State.isArrayOf_alike hZ.alike A.2.1) rfl A.2.2 hin (by rw [hj]; exact H i hi) hg hs hd _ kk
end Refs
section Starts
variable {s : State} {args : Array Value} {t : Term} {a : Addr} {C n d : String}
theorem own_fldI {z : Int32} (ev : t.eval args s none [] s = some (.ref a)) (h : (Cond.eq (Term.field t C n d) (Term.int z)).value args s none s [] = some true) : Fld s s.heap a C n d (.int z) := by
  refine Fld.start ?_
  rw [← fld_at (args := args) (first := s) (o := none) (idx := []) ev]
  cases hf : (Term.field t C n d).eval args s none [] s with
  | none => simp [Cond.value, hf] at h
  | some x =>
    have hz : (Term.int z).eval args s none [] s = some (.int z) := rfl
    cases x <;> simp [Cond.value, hf, hz] at h
    rw [h]
theorem own_fldN (ev : t.eval args s none [] s = some (.ref a)) (h : (Cond.eq (Term.field t C n d) Term.null).value args s none s [] = some true) : Fld s s.heap a C n d .null := by
  refine Fld.start ?_
  rw [← fld_at (args := args) (first := s) (o := none) (idx := []) ev]
  exact null_v h
theorem own_fldE {K : String} (ev : t.eval args s none [] s = some (.ref a)) (h : (Cond.exactly (Term.field t C n d) K).value args s none s [] = some true) : ∃ y, Fld s s.heap a C n d (.ref y) := by
  obtain ⟨y, hy⟩ := exa_v h
  refine ⟨y, Fld.start ?_⟩
  rw [← fld_at (args := args) (first := s) (o := none) (idx := []) ev]
  exact hy
theorem own_fldS {u : Term} {b : Addr} (ev : t.eval args s none [] s = some (.ref a)) (eu : u.eval args s none [] s = some (.ref b)) (h : (Cond.eq (Term.field t C n d) u).value args s none s [] = some true) : Fld s s.heap a C n d (.ref b) := by
  refine Fld.start ?_
  rw [← fld_at (args := args) (first := s) (o := none) (idx := []) ev]
  cases hf : (Term.field t C n d).eval args s none [] s with
  | none => simp [Cond.value, hf] at h
  | some x =>
    cases x <;> simp [Cond.value, hf, eu] at h
    rw [h]
theorem own_statI {t : Term} {z : Int32} (h : (Cond.eq t (Term.int z)).value args s none s [] = some true) : t.eval args s none [] s = some (.int z) := by
  cases hf : t.eval args s none [] s with
  | none => simp [Cond.value, hf] at h
  | some x =>
    have hz : (Term.int z).eval args s none [] s = some (.int z) := rfl
    cases x <;> simp [Cond.value, hf, hz] at h
    rw [h]
theorem own_empty {cl : Cell} {ty : FieldType} (ev : t.eval args s none [] s = some (.ref a)) (A : Arr s s.heap a cl ty) (h : (Cond.eq (Term.length t) (Term.int 0)).value args s none s [] = some true) : Bal s s.heap a ty [] := by
  have ha : s.arrayAt? a = some cl := A.fin (Vm.Alike.refl _)
  have hsz : cl.slots.size = 0 := by
    by_cases hl : cl.slots.size < 2 ^ 31
    · have hv := len_f (args := args) (first := s) (o := none) (idx := []) ev ha hl
      have hz : (Term.int 0).eval args s none [] s = some (.int 0) := rfl
      simp only [Cond.value, hv, hz] at h
      have q := len_toInt hl
      have q2 : cl.slots.size.toInt32 = 0 := by simpa using h
      rw [q2] at q
      have : (0 : Int32).toInt = 0 := rfl
      omega
    · exfalso
      cases hf : (Term.length t).eval args s none [] s with
      | none => simp [Cond.value, hf] at h
      | some x => simp [Term.eval, ev, ha, hl] at hf
  exact ⟨cl, A, hsz, fun i hi => absurd hi (Nat.not_lt_zero i)⟩
end Starts
end Jvm.RoadKit
namespace Jvm.Pilot.@@N@@
open Jvm Jvm.ClassFile Sem Op Lib Jvm.Free Jvm.Stand Jvm.LawKit Jvm.RoadKit Bundle Jvm.Pilot.@@N@@.Jvm.D
def own_vr (pa q : Int32) : Int32 := if (q &&& (-128 : Int32)) = (0 : Int32) then (pa + (1 : Int32)) else if ((own_ushr q (7 : Int32)) &&& (-128 : Int32)) = (0 : Int32) then ((pa + (1 : Int32)) + (1 : Int32)) else if ((own_ushr (own_ushr q (7 : Int32)) (7 : Int32)) &&& (-128 : Int32)) = (0 : Int32) then (((pa + (1 : Int32)) + (1 : Int32)) + (1 : Int32)) else if ((own_ushr (own_ushr (own_ushr q (7 : Int32)) (7 : Int32)) (7 : Int32)) &&& (-128 : Int32)) = (0 : Int32) then ((((pa + (1 : Int32)) + (1 : Int32)) + (1 : Int32)) + (1 : Int32)) else (((((pa + (1 : Int32)) + (1 : Int32)) + (1 : Int32)) + (1 : Int32)) + (1 : Int32))
def own_vl (xs : List Int32) (pa q : Int32) : List Int32 := if (q &&& (-128 : Int32)) = (0 : Int32) then (xs.set (pa).toNatClampNeg (nar .byte (q.toInt8.toInt32))) else if ((own_ushr q (7 : Int32)) &&& (-128 : Int32)) = (0 : Int32) then ((xs.set (pa).toNatClampNeg (nar .byte (((q &&& (127 : Int32)) ||| (128 : Int32)).toInt8.toInt32))).set ((pa + (1 : Int32))).toNatClampNeg (nar .byte ((own_ushr q (7 : Int32)).toInt8.toInt32))) else if ((own_ushr (own_ushr q (7 : Int32)) (7 : Int32)) &&& (-128 : Int32)) = (0 : Int32) then (((xs.set (pa).toNatClampNeg (nar .byte (((q &&& (127 : Int32)) ||| (128 : Int32)).toInt8.toInt32))).set ((pa + (1 : Int32))).toNatClampNeg (nar .byte ((((own_ushr q (7 : Int32)) &&& (127 : Int32)) ||| (128 : Int32)).toInt8.toInt32))).set (((pa + (1 : Int32)) + (1 : Int32))).toNatClampNeg (nar .byte ((own_ushr (own_ushr q (7 : Int32)) (7 : Int32)).toInt8.toInt32))) else if ((own_ushr (own_ushr (own_ushr q (7 : Int32)) (7 : Int32)) (7 : Int32)) &&& (-128 : Int32)) = (0 : Int32) then ((((xs.set (pa).toNatClampNeg (nar .byte (((q &&& (127 : Int32)) ||| (128 : Int32)).toInt8.toInt32))).set ((pa + (1 : Int32))).toNatClampNeg (nar .byte ((((own_ushr q (7 : Int32)) &&& (127 : Int32)) ||| (128 : Int32)).toInt8.toInt32))).set (((pa + (1 : Int32)) + (1 : Int32))).toNatClampNeg (nar .byte ((((own_ushr (own_ushr q (7 : Int32)) (7 : Int32)) &&& (127 : Int32)) ||| (128 : Int32)).toInt8.toInt32))).set ((((pa + (1 : Int32)) + (1 : Int32)) + (1 : Int32))).toNatClampNeg (nar .byte ((own_ushr (own_ushr (own_ushr q (7 : Int32)) (7 : Int32)) (7 : Int32)).toInt8.toInt32))) else (((((xs.set (pa).toNatClampNeg (nar .byte (((q &&& (127 : Int32)) ||| (128 : Int32)).toInt8.toInt32))).set ((pa + (1 : Int32))).toNatClampNeg (nar .byte ((((own_ushr q (7 : Int32)) &&& (127 : Int32)) ||| (128 : Int32)).toInt8.toInt32))).set (((pa + (1 : Int32)) + (1 : Int32))).toNatClampNeg (nar .byte ((((own_ushr (own_ushr q (7 : Int32)) (7 : Int32)) &&& (127 : Int32)) ||| (128 : Int32)).toInt8.toInt32))).set ((((pa + (1 : Int32)) + (1 : Int32)) + (1 : Int32))).toNatClampNeg (nar .byte ((((own_ushr (own_ushr (own_ushr q (7 : Int32)) (7 : Int32)) (7 : Int32)) &&& (127 : Int32)) ||| (128 : Int32)).toInt8.toInt32))).set (((((pa + (1 : Int32)) + (1 : Int32)) + (1 : Int32)) + (1 : Int32))).toNatClampNeg (nar .byte ((own_ushr (own_ushr (own_ushr (own_ushr q (7 : Int32)) (7 : Int32)) (7 : Int32)) (7 : Int32)).toInt8.toInt32)))
def own_put (xs : List Int32) (pa pk : Int32) (u : Int64) (pn : Int32) : List Int32 := if pk < pn then (if pk < (pn - (1 : Int32)) then xs.set (pa + pk).toNatClampNeg (nar .byte (((((own_ushrL u ((7 : Int32) * pk)) &&& (127 : Int64)).toInt32) ||| (128 : Int32)).toInt8.toInt32)) else xs.set (pa + pk).toNatClampNeg (nar .byte ((((own_ushrL u ((7 : Int32) * pk)) &&& (127 : Int64)).toInt32).toInt8.toInt32))) else xs
theorem own_put_len (xs : List Int32) (pa pk : Int32) (u : Int64) (pn : Int32) : (own_put xs pa pk u pn).length = xs.length := by
  unfold own_put; split
  · split <;> simp
  · rfl
def own_nq (u : Int64) (n : Int32) : Prop := n = if u < (128 : Int64) then 1 else if u < (16384 : Int64) then 2 else if u < (2097152 : Int64) then 3 else if u < (268435456 : Int64) then 4 else 5
theorem own_at (p : Int32) : p &&& (3 : Int32) = 0 ∨ p &&& (3 : Int32) = 1 ∨ p &&& (3 : Int32) = 2 ∨ p &&& (3 : Int32) = 3 := by
  have e := c_mask p 3 2 (by decide) (by decide)
  have a0 : (0 : Int32).toInt = 0 := rfl
  have a1 : (1 : Int32).toInt = 1 := rfl
  have a2 : (2 : Int32).toInt = 2 := rfl
  have a3 : (3 : Int32).toInt = 3 := rfl
  simp only [← Int32.toInt_inj, a0, a1, a2, a3]
  omega
theorem own_m128 : ∀ i : Fin 32, (0xffffff80#32).getLsbD i.val = decide (7 ≤ i.val) := by decide +kernel
theorem own_and128 (x : Int32) : (x &&& (-128 : Int32)).toBitVec = (x.toBitVec >>> 7) <<< 7 := by
  apply BitVec.eq_of_getLsbD_eq
  intro i hi
  have m := own_m128 ⟨i, hi⟩
  rw [Int32.toBitVec_and, BitVec.getLsbD_and, BitVec.getLsbD_shiftLeft, BitVec.getLsbD_ushiftRight]
  rw [show (-128 : Int32).toBitVec = 0xffffff80#32 from rfl, m]
  by_cases h : 7 ≤ i
  · have : 7 + (i - 7) = i := by omega
    simp [h, hi, this, Nat.not_lt.mpr h]
  · simp [h, hi, Nat.lt_of_not_le h]
theorem own_c (x : Int32) : ((x &&& (-128 : Int32)) = (0 : Int32)) ↔ x.toInt % 4294967296 < 128 := by
  have hb := own_and128 x
  have hn : ((x.toBitVec >>> 7) <<< 7).toNat = (x.toBitVec.toNat / 128) * 128 := by
    rw [BitVec.toNat_shiftLeft, BitVec.toNat_ushiftRight, Nat.shiftLeft_eq, Nat.shiftRight_eq_div_pow]
    have := x.toBitVec.isLt
    omega
  have ht : x.toInt % 4294967296 = (x.toBitVec.toNat : Int) := by
    rw [show x.toInt = x.toBitVec.toInt from rfl, BitVec.toInt_eq_toNat_bmod]
    have := x.toBitVec.isLt
    have q := bm32 (x.toBitVec.toNat : Int)
    omega
  rw [← Int32.toBitVec_inj, hb, ← BitVec.toNat_inj, hn, ht]
  show _ = 0 ↔ _
  omega
theorem own_sh (x : Int32) : (own_ushr x (7 : Int32)).toInt = (x.toInt % 4294967296) / 128 := c_iushr x 7 7 (by decide) (by decide)
theorem own_sh4 (q : Int32) : ((own_ushr (own_ushr (own_ushr (own_ushr q (7 : Int32)) (7 : Int32)) (7 : Int32)) (7 : Int32)) &&& (-128 : Int32)) = (0 : Int32) := by
  rw [own_c, own_sh, own_sh, own_sh, own_sh]; omega
theorem own_127 (x : Int32) : (x &&& (127 : Int32)).toInt = x.toInt % 128 := c_mask x 127 7 (by decide) (by decide)
theorem own_small (x : Int32) (h : (x &&& (-128 : Int32)) = (0 : Int32)) : x &&& (127 : Int32) = x := by
  apply Int32.toInt_inj.mp
  rw [own_127]; have := (own_c x).mp h; have := rng32 x; omega
def own_u (q : Int32) : Int64 := q.toInt64 &&& (4294967295 : Int64)
theorem own_ut (q : Int32) : (own_u q).toInt = q.toInt % 4294967296 := by
  unfold own_u; rw [c_maskL q.toInt64 4294967295 32 (by decide) (by decide), c_i2l]; rfl
theorem own_l127 (y : Int64) : ((y &&& (127 : Int64)).toInt32).toInt = y.toInt % 128 := by
  have h := c_maskL y 127 7 (by decide) (by decide)
  have h2 := c_l2i (y &&& (127 : Int64))
  have := rng32 ((y &&& (127 : Int64)).toInt32)
  omega
theorem own_us (y : Int64) (s : Int32) (k : Nat) (hk : s.toBitVec.toNat % 64 = k) (h0 : 0 < k) : (own_ushrL y s).toInt = (y.toInt % 18446744073709551616) / (2 ^ k : Nat) := c_lushr y s k hk h0
theorem own_us0 (y : Int64) : own_ushrL y ((7 : Int32) * (0 : Int32)) = y := by
  have e : (((7 : Int32) * (0 : Int32)) &&& 0x3f).toInt64.toUInt64 = 0 := by decide
  unfold own_ushrL; rw [e]; simp
theorem own_low0 (q : Int32) : ((own_ushrL (own_u q) ((7 : Int32) * (0 : Int32))) &&& (127 : Int64)).toInt32 = q &&& (127 : Int32) := by
  apply Int32.toInt_inj.mp
  rw [own_us0, own_l127, own_127, own_ut]; omega
theorem own_low1 (q : Int32) : ((own_ushrL (own_u q) ((7 : Int32) * (1 : Int32))) &&& (127 : Int64)).toInt32 = (own_ushr q (7 : Int32)) &&& (127 : Int32) := by
  apply Int32.toInt_inj.mp
  rw [own_l127, own_us _ _ 7 (by decide) (by decide), own_127, own_ut, own_sh]; omega
theorem own_low2 (q : Int32) : ((own_ushrL (own_u q) ((7 : Int32) * (2 : Int32))) &&& (127 : Int64)).toInt32 = (own_ushr (own_ushr q (7 : Int32)) (7 : Int32)) &&& (127 : Int32) := by
  apply Int32.toInt_inj.mp
  rw [own_l127, own_us _ _ 14 (by decide) (by decide), own_127, own_ut, own_sh, own_sh]; omega
theorem own_low3 (q : Int32) : ((own_ushrL (own_u q) ((7 : Int32) * (3 : Int32))) &&& (127 : Int64)).toInt32 = (own_ushr (own_ushr (own_ushr q (7 : Int32)) (7 : Int32)) (7 : Int32)) &&& (127 : Int32) := by
  apply Int32.toInt_inj.mp
  rw [own_l127, own_us _ _ 21 (by decide) (by decide), own_127, own_ut, own_sh, own_sh, own_sh]; omega
theorem own_low4 (q : Int32) : ((own_ushrL (own_u q) ((7 : Int32) * (4 : Int32))) &&& (127 : Int64)).toInt32 = (own_ushr (own_ushr (own_ushr (own_ushr q (7 : Int32)) (7 : Int32)) (7 : Int32)) (7 : Int32)) &&& (127 : Int32) := by
  apply Int32.toInt_inj.mp
  rw [own_l127, own_us _ _ 28 (by decide) (by decide), own_127, own_ut, own_sh, own_sh, own_sh, own_sh]; omega
def own_fl (f : Int32) : List Int32 := [(nar .byte f), (nar .byte f), (nar .byte f), (nar .byte f), (nar .byte f), (nar .byte f), (nar .byte f), (nar .byte f), (nar .byte f)]
theorem own_tab (q : Int32) (n : Int32) (h : own_nq (own_u q) n) : (n = 1 ∧ ((q &&& (-128 : Int32)) = (0 : Int32))) ∨ (n = 2 ∧ ¬ ((q &&& (-128 : Int32)) = (0 : Int32)) ∧ (((own_ushr q (7 : Int32)) &&& (-128 : Int32)) = (0 : Int32))) ∨ (n = 3 ∧ ¬ ((q &&& (-128 : Int32)) = (0 : Int32)) ∧ ¬ (((own_ushr q (7 : Int32)) &&& (-128 : Int32)) = (0 : Int32)) ∧ (((own_ushr (own_ushr q (7 : Int32)) (7 : Int32)) &&& (-128 : Int32)) = (0 : Int32))) ∨ (n = 4 ∧ ¬ ((q &&& (-128 : Int32)) = (0 : Int32)) ∧ ¬ (((own_ushr q (7 : Int32)) &&& (-128 : Int32)) = (0 : Int32)) ∧ ¬ (((own_ushr (own_ushr q (7 : Int32)) (7 : Int32)) &&& (-128 : Int32)) = (0 : Int32)) ∧ (((own_ushr (own_ushr (own_ushr q (7 : Int32)) (7 : Int32)) (7 : Int32)) &&& (-128 : Int32)) = (0 : Int32))) ∨ (n = 5 ∧ ¬ ((q &&& (-128 : Int32)) = (0 : Int32)) ∧ ¬ (((own_ushr q (7 : Int32)) &&& (-128 : Int32)) = (0 : Int32)) ∧ ¬ (((own_ushr (own_ushr q (7 : Int32)) (7 : Int32)) &&& (-128 : Int32)) = (0 : Int32)) ∧ ¬ (((own_ushr (own_ushr (own_ushr q (7 : Int32)) (7 : Int32)) (7 : Int32)) &&& (-128 : Int32)) = (0 : Int32))) := by
  have a1 : (128 : Int64).toInt = 128 := rfl
  have a2 : (16384 : Int64).toInt = 16384 := rfl
  have a3 : (2097152 : Int64).toInt = 2097152 := rfl
  have a4 : (268435456 : Int64).toInt = 268435456 := rfl
  unfold own_nq at h
  simp only [Int64.lt_iff_toInt_lt, own_ut, a1, a2, a3, a4] at h
  simp only [own_c, own_sh]
  split at h
  · left; exact ⟨h, by omega⟩
  · right; split at h
    · left; exact ⟨h, by omega, by omega⟩
    · right; split at h
      · left; exact ⟨h, by omega, by omega, by omega⟩
      · right; split at h
        · left; exact ⟨h, by omega, by omega, by omega, by omega⟩
        · right; exact ⟨h, by omega, by omega, by omega, by omega⟩
theorem own_final (q pa f n : Int32) (hp : pa = 0 ∨ pa = 1 ∨ pa = 2 ∨ pa = 3) (h : own_nq (own_u q) n) : own_vr pa q = pa + n ∧ own_vl (own_fl f) pa q = (own_put (own_put (own_put (own_put (own_put (own_fl f) pa (0 : Int32) (own_u q) n) pa (1 : Int32) (own_u q) n) pa (2 : Int32) (own_u q) n) pa (3 : Int32) (own_u q) n) pa (4 : Int32) (own_u q) n) := by
  rcases own_tab q n h with ⟨rfl, c0⟩ | ⟨rfl, c0, c1⟩ | ⟨rfl, c0, c1, c2⟩ | ⟨rfl, c0, c1, c2, c3⟩ | ⟨rfl, c0, c1, c2, c3⟩
  · have p0 : ∀ (xs : List Int32) (pa : Int32), own_put xs pa (0 : Int32) (own_u q) (1 : Int32) = xs.set (pa + (0 : Int32)).toNatClampNeg (nar .byte (q.toInt8.toInt32)) := by intro xs pa; unfold own_put; rw [if_pos (by decide), if_neg (by decide), own_low0, own_small _ c0]
    have p1 : ∀ (xs : List Int32) (pa : Int32), own_put xs pa (1 : Int32) (own_u q) (1 : Int32) = xs := by intro xs pa; unfold own_put; rw [if_neg (by decide)]
    have p2 : ∀ (xs : List Int32) (pa : Int32), own_put xs pa (2 : Int32) (own_u q) (1 : Int32) = xs := by intro xs pa; unfold own_put; rw [if_neg (by decide)]
    have p3 : ∀ (xs : List Int32) (pa : Int32), own_put xs pa (3 : Int32) (own_u q) (1 : Int32) = xs := by intro xs pa; unfold own_put; rw [if_neg (by decide)]
    have p4 : ∀ (xs : List Int32) (pa : Int32), own_put xs pa (4 : Int32) (own_u q) (1 : Int32) = xs := by intro xs pa; unfold own_put; rw [if_neg (by decide)]
    rw [own_vr, own_vl, if_pos c0, if_pos c0, p4, p3, p2, p1, p0]
    rcases hp with rfl | rfl | rfl | rfl <;> exact ⟨by decide, rfl⟩
  · have p0 : ∀ (xs : List Int32) (pa : Int32), own_put xs pa (0 : Int32) (own_u q) (2 : Int32) = xs.set (pa + (0 : Int32)).toNatClampNeg (nar .byte (((q &&& (127 : Int32)) ||| (128 : Int32)).toInt8.toInt32)) := by intro xs pa; unfold own_put; rw [if_pos (by decide), if_pos (by decide), own_low0]
    have p1 : ∀ (xs : List Int32) (pa : Int32), own_put xs pa (1 : Int32) (own_u q) (2 : Int32) = xs.set (pa + (1 : Int32)).toNatClampNeg (nar .byte ((own_ushr q (7 : Int32)).toInt8.toInt32)) := by intro xs pa; unfold own_put; rw [if_pos (by decide), if_neg (by decide), own_low1, own_small _ c1]
    have p2 : ∀ (xs : List Int32) (pa : Int32), own_put xs pa (2 : Int32) (own_u q) (2 : Int32) = xs := by intro xs pa; unfold own_put; rw [if_neg (by decide)]
    have p3 : ∀ (xs : List Int32) (pa : Int32), own_put xs pa (3 : Int32) (own_u q) (2 : Int32) = xs := by intro xs pa; unfold own_put; rw [if_neg (by decide)]
    have p4 : ∀ (xs : List Int32) (pa : Int32), own_put xs pa (4 : Int32) (own_u q) (2 : Int32) = xs := by intro xs pa; unfold own_put; rw [if_neg (by decide)]
    rw [own_vr, own_vl, if_neg c0, if_pos c1, if_neg c0, if_pos c1, p4, p3, p2, p1, p0]
    rcases hp with rfl | rfl | rfl | rfl <;> exact ⟨by decide, rfl⟩
  · have p0 : ∀ (xs : List Int32) (pa : Int32), own_put xs pa (0 : Int32) (own_u q) (3 : Int32) = xs.set (pa + (0 : Int32)).toNatClampNeg (nar .byte (((q &&& (127 : Int32)) ||| (128 : Int32)).toInt8.toInt32)) := by intro xs pa; unfold own_put; rw [if_pos (by decide), if_pos (by decide), own_low0]
    have p1 : ∀ (xs : List Int32) (pa : Int32), own_put xs pa (1 : Int32) (own_u q) (3 : Int32) = xs.set (pa + (1 : Int32)).toNatClampNeg (nar .byte ((((own_ushr q (7 : Int32)) &&& (127 : Int32)) ||| (128 : Int32)).toInt8.toInt32)) := by intro xs pa; unfold own_put; rw [if_pos (by decide), if_pos (by decide), own_low1]
    have p2 : ∀ (xs : List Int32) (pa : Int32), own_put xs pa (2 : Int32) (own_u q) (3 : Int32) = xs.set (pa + (2 : Int32)).toNatClampNeg (nar .byte ((own_ushr (own_ushr q (7 : Int32)) (7 : Int32)).toInt8.toInt32)) := by intro xs pa; unfold own_put; rw [if_pos (by decide), if_neg (by decide), own_low2, own_small _ c2]
    have p3 : ∀ (xs : List Int32) (pa : Int32), own_put xs pa (3 : Int32) (own_u q) (3 : Int32) = xs := by intro xs pa; unfold own_put; rw [if_neg (by decide)]
    have p4 : ∀ (xs : List Int32) (pa : Int32), own_put xs pa (4 : Int32) (own_u q) (3 : Int32) = xs := by intro xs pa; unfold own_put; rw [if_neg (by decide)]
    rw [own_vr, own_vl, if_neg c0, if_neg c1, if_pos c2, if_neg c0, if_neg c1, if_pos c2, p4, p3, p2, p1, p0]
    rcases hp with rfl | rfl | rfl | rfl <;> exact ⟨by decide, rfl⟩
  · have p0 : ∀ (xs : List Int32) (pa : Int32), own_put xs pa (0 : Int32) (own_u q) (4 : Int32) = xs.set (pa + (0 : Int32)).toNatClampNeg (nar .byte (((q &&& (127 : Int32)) ||| (128 : Int32)).toInt8.toInt32)) := by intro xs pa; unfold own_put; rw [if_pos (by decide), if_pos (by decide), own_low0]
    have p1 : ∀ (xs : List Int32) (pa : Int32), own_put xs pa (1 : Int32) (own_u q) (4 : Int32) = xs.set (pa + (1 : Int32)).toNatClampNeg (nar .byte ((((own_ushr q (7 : Int32)) &&& (127 : Int32)) ||| (128 : Int32)).toInt8.toInt32)) := by intro xs pa; unfold own_put; rw [if_pos (by decide), if_pos (by decide), own_low1]
    have p2 : ∀ (xs : List Int32) (pa : Int32), own_put xs pa (2 : Int32) (own_u q) (4 : Int32) = xs.set (pa + (2 : Int32)).toNatClampNeg (nar .byte ((((own_ushr (own_ushr q (7 : Int32)) (7 : Int32)) &&& (127 : Int32)) ||| (128 : Int32)).toInt8.toInt32)) := by intro xs pa; unfold own_put; rw [if_pos (by decide), if_pos (by decide), own_low2]
    have p3 : ∀ (xs : List Int32) (pa : Int32), own_put xs pa (3 : Int32) (own_u q) (4 : Int32) = xs.set (pa + (3 : Int32)).toNatClampNeg (nar .byte ((own_ushr (own_ushr (own_ushr q (7 : Int32)) (7 : Int32)) (7 : Int32)).toInt8.toInt32)) := by intro xs pa; unfold own_put; rw [if_pos (by decide), if_neg (by decide), own_low3, own_small _ c3]
    have p4 : ∀ (xs : List Int32) (pa : Int32), own_put xs pa (4 : Int32) (own_u q) (4 : Int32) = xs := by intro xs pa; unfold own_put; rw [if_neg (by decide)]
    rw [own_vr, own_vl, if_neg c0, if_neg c1, if_neg c2, if_pos c3, if_neg c0, if_neg c1, if_neg c2, if_pos c3, p4, p3, p2, p1, p0]
    rcases hp with rfl | rfl | rfl | rfl <;> exact ⟨by decide, rfl⟩
  · have p0 : ∀ (xs : List Int32) (pa : Int32), own_put xs pa (0 : Int32) (own_u q) (5 : Int32) = xs.set (pa + (0 : Int32)).toNatClampNeg (nar .byte (((q &&& (127 : Int32)) ||| (128 : Int32)).toInt8.toInt32)) := by intro xs pa; unfold own_put; rw [if_pos (by decide), if_pos (by decide), own_low0]
    have p1 : ∀ (xs : List Int32) (pa : Int32), own_put xs pa (1 : Int32) (own_u q) (5 : Int32) = xs.set (pa + (1 : Int32)).toNatClampNeg (nar .byte ((((own_ushr q (7 : Int32)) &&& (127 : Int32)) ||| (128 : Int32)).toInt8.toInt32)) := by intro xs pa; unfold own_put; rw [if_pos (by decide), if_pos (by decide), own_low1]
    have p2 : ∀ (xs : List Int32) (pa : Int32), own_put xs pa (2 : Int32) (own_u q) (5 : Int32) = xs.set (pa + (2 : Int32)).toNatClampNeg (nar .byte ((((own_ushr (own_ushr q (7 : Int32)) (7 : Int32)) &&& (127 : Int32)) ||| (128 : Int32)).toInt8.toInt32)) := by intro xs pa; unfold own_put; rw [if_pos (by decide), if_pos (by decide), own_low2]
    have p3 : ∀ (xs : List Int32) (pa : Int32), own_put xs pa (3 : Int32) (own_u q) (5 : Int32) = xs.set (pa + (3 : Int32)).toNatClampNeg (nar .byte ((((own_ushr (own_ushr (own_ushr q (7 : Int32)) (7 : Int32)) (7 : Int32)) &&& (127 : Int32)) ||| (128 : Int32)).toInt8.toInt32)) := by intro xs pa; unfold own_put; rw [if_pos (by decide), if_pos (by decide), own_low3]
    have p4 : ∀ (xs : List Int32) (pa : Int32), own_put xs pa (4 : Int32) (own_u q) (5 : Int32) = xs.set (pa + (4 : Int32)).toNatClampNeg (nar .byte ((own_ushr (own_ushr (own_ushr (own_ushr q (7 : Int32)) (7 : Int32)) (7 : Int32)) (7 : Int32)).toInt8.toInt32)) := by intro xs pa; unfold own_put; rw [if_pos (by decide), if_neg (by decide), own_low4, own_small _ (own_sh4 q)]
    rw [own_vr, own_vl, if_neg c0, if_neg c1, if_neg c2, if_neg c3, if_neg c0, if_neg c1, if_neg c2, if_neg c3, p4, p3, p2, p1, p0]
    rcases hp with rfl | rfl | rfl | rfl <;> exact ⟨by decide, rfl⟩
theorem pd_0 : parseMethodDescriptor "([BB)V" = some ⟨[(.array .byte), .byte], none⟩ := by decide +kernel
theorem pd_1 : parseMethodDescriptor "([BIIJI)V" = some ⟨[(.array .byte), .int, .int, .long, .int], none⟩ := by decide +kernel
theorem pd_2 : parseMethodDescriptor "([BII)I" = some ⟨[(.array .byte), .int, .int], some .int⟩ := by decide +kernel
theorem pd_3 : parseMethodDescriptor "([B[B)Z" = some ⟨[(.array .byte), (.array .byte)], some .boolean⟩ := by decide +kernel
theorem d1_0 : decode method_4_code 0 = .ok (.aload_n 0, 1) := by decide +kernel
theorem d1_1 : decode method_4_code 1 = .ok (.iconst 0, 1) := by decide +kernel
theorem d1_2 : decode method_4_code 2 = .ok (.iload_n 1, 1) := by decide +kernel
theorem d1_3 : decode method_4_code 3 = .ok (.bastore, 1) := by decide +kernel
theorem d1_4 : decode method_4_code 4 = .ok (.aload_n 0, 1) := by decide +kernel
theorem d1_5 : decode method_4_code 5 = .ok (.iconst 1, 1) := by decide +kernel
theorem d1_6 : decode method_4_code 6 = .ok (.iload_n 1, 1) := by decide +kernel
theorem d1_7 : decode method_4_code 7 = .ok (.bastore, 1) := by decide +kernel
theorem d1_8 : decode method_4_code 8 = .ok (.aload_n 0, 1) := by decide +kernel
theorem d1_9 : decode method_4_code 9 = .ok (.iconst 2, 1) := by decide +kernel
theorem d1_10 : decode method_4_code 10 = .ok (.iload_n 1, 1) := by decide +kernel
theorem d1_11 : decode method_4_code 11 = .ok (.bastore, 1) := by decide +kernel
theorem d1_12 : decode method_4_code 12 = .ok (.aload_n 0, 1) := by decide +kernel
theorem d1_13 : decode method_4_code 13 = .ok (.iconst 3, 1) := by decide +kernel
theorem d1_14 : decode method_4_code 14 = .ok (.iload_n 1, 1) := by decide +kernel
theorem d1_15 : decode method_4_code 15 = .ok (.bastore, 1) := by decide +kernel
theorem d1_16 : decode method_4_code 16 = .ok (.aload_n 0, 1) := by decide +kernel
theorem d1_17 : decode method_4_code 17 = .ok (.iconst 4, 1) := by decide +kernel
theorem d1_18 : decode method_4_code 18 = .ok (.iload_n 1, 1) := by decide +kernel
theorem d1_19 : decode method_4_code 19 = .ok (.bastore, 1) := by decide +kernel
theorem d1_20 : decode method_4_code 20 = .ok (.aload_n 0, 1) := by decide +kernel
theorem d1_21 : decode method_4_code 21 = .ok (.iconst 5, 1) := by decide +kernel
theorem d1_22 : decode method_4_code 22 = .ok (.iload_n 1, 1) := by decide +kernel
theorem d1_23 : decode method_4_code 23 = .ok (.bastore, 1) := by decide +kernel
theorem d1_24 : decode method_4_code 24 = .ok (.aload_n 0, 1) := by decide +kernel
theorem d1_25 : decode method_4_code 25 = .ok (.bipush 6, 2) := by decide +kernel
theorem d1_27 : decode method_4_code 27 = .ok (.iload_n 1, 1) := by decide +kernel
theorem d1_28 : decode method_4_code 28 = .ok (.bastore, 1) := by decide +kernel
theorem d1_29 : decode method_4_code 29 = .ok (.aload_n 0, 1) := by decide +kernel
theorem d1_30 : decode method_4_code 30 = .ok (.bipush 7, 2) := by decide +kernel
theorem d1_32 : decode method_4_code 32 = .ok (.iload_n 1, 1) := by decide +kernel
theorem d1_33 : decode method_4_code 33 = .ok (.bastore, 1) := by decide +kernel
theorem d1_34 : decode method_4_code 34 = .ok (.aload_n 0, 1) := by decide +kernel
theorem d1_35 : decode method_4_code 35 = .ok (.bipush 8, 2) := by decide +kernel
theorem d1_37 : decode method_4_code 37 = .ok (.iload_n 1, 1) := by decide +kernel
theorem d1_38 : decode method_4_code 38 = .ok (.bastore, 1) := by decide +kernel
theorem d1_39 : decode method_4_code 39 = .ok (.return_, 1) := by decide +kernel
theorem pn_1 : plainName "io/heapwire/FrameOutputPutVarintPinLaw" = true := by first | (simp [plainName, overriddenIn]; done) | decide +kernel
theorem ef_1 (m : MethodId) (a1 : Addr) (f : Int32) : entryFrame m #[(.ref a1), (.int f)] 2 = mkF m 0 #[.val (.ref a1), .val (.int f)] [] := by first | (simp [entryFrame, mkF, argsToLocals, Value.category]; done) | rfl
def Q1 (Z : State) (a1 : Addr) (f : Int32) (h0 : Heap) (n0 : Nat) (v : Option Value) (h : Heap) (L : List Loc) : Prop := v = none ∧ Fr n0 L ∧ Keep h0 h [a1] ∧ Bal Z h a1 .byte (own_fl f)
set_option maxRecDepth 65536 in
set_option maxHeartbeats 40000000 in
theorem rm1 (l : Launch) (Z : State) (a0 : Array Value) (hw : ∀ d ∈ tables_1, d.before a0 Z = true) (ws : List Jvm.Cond) (a1 : Addr) (f : Int32) (h0 : Heap) (n0 : Nat) (Z0 : n0 ≤ h0.size) (V_a1 : Bal Z h0 a1 .byte [(0 : Int32), (0 : Int32), (0 : Int32), (0 : Int32), (0 : Int32), (0 : Int32), (0 : Int32), (0 : Int32), (0 : Int32)]) (g_a1 : n0 ≤ a1) :
    MetFree l (⟨"io/heapwire/FrameOutputPutVarintPinLaw", "fill9", "([BB)V"⟩ : MethodName) (head1 (Jvm.Cond.code (⟨"io/heapwire/FrameOutputPutVarintPinLaw", "fill9", "([BB)V"⟩ : MethodName) method_4_code 2 none :: ws) ({ frames := 0, cells := 0, slots := 0, locals := 0 } : Room)) (fun a U => a = #[(.ref a1), (.int f)] ∧ Z.Warmed39 U.vm ∧ U.heap = h0) (fun _ _ _ _ _ => True) (fun _ U o U' => ∃ v L, o = .returned v ∧ Q1 Z a1 f h0 n0 v U'.heap L ∧ FrameEnd U o U' L ({ frames := 0, cells := 0, slots := 0, locals := 0 } : Room).cells ({ frames := 0, cells := 0, slots := 0, locals := 0 } : Room).slots) := by
  refine MetFree.of_bodySF (plainFor_of_name pn_1) hisR ?_
  intro p e s m args below meth c s₁ Bd hml0 hP hK
  obtain ⟨rfl, hZ, hh⟩ := hP
  have hx := Bd.exec
  have hby := Bd.bytes
  have hlk : meth.locks = false := BodyLoose.notSynchronized Bd
  have hml : c.maxLocals = 2 := hml0
  have hown : s.vm.findClass "io/heapwire/FrameOutputPutVarintPinLaw" = some m.cls := findClass_of_methodNamed Bd.named
  have hnm := (name_of_methodNamed Bd.named Bd.method).1
  have X0 : Stand p l e ({ frames := 0, cells := 0, slots := 0, locals := 0 } : Room) s m #[(.ref a1), (.int f)] below meth c s₁ [] 0 0 := Stand.of_body Bd
  have e0 : s₁.heap = h0 := by rw [← hh, Bd.state]; rfl
  have N0 := Fr.nil n0
  show Gl p.tables e below (fun (o : Outcome) (U' : State) => ∃ v L, o = .returned v ∧ Q1 Z a1 f h0 n0 v U'.heap L ∧ FrameEnd s o U' L ({ frames := 0, cells := 0, slots := 0, locals := 0 } : Room).cells ({ frames := 0, cells := 0, slots := 0, locals := 0 } : Room).slots) _
  refine Gl.pre (fun t k => castTop (ef_1 m a1 f) k) ?_
  obtain ⟨PP, hPP⟩ : ∃ P : Outcome → State → Prop, P = (fun (o : Outcome) (U' : State) => ∃ v L, o = .returned v ∧ Q1 Z a1 f h0 n0 v U'.heap L ∧ FrameEnd s o U' L ({ frames := 0, cells := 0, slots := 0, locals := 0 } : Room).cells ({ frames := 0, cells := 0, slots := 0, locals := 0 } : Room).slots) := ⟨_, rfl⟩
  rw [← hPP]
  have K0 : Keep h0 h0 [a1] := Keep.refl h0 _
  show Gl p.tables e below PP (s₁.setTop (mkF m 0 #[.val (.ref a1), .val (.int f)] []))
  refine Gl.pre (fun _ k => XS.aloadN X0.here hx rfl (hb hby d1_0) rfl rfl k) ?_
  show Gl p.tables e below PP (s₁.setTop (mkF m 1 #[.val (.ref a1), .val (.int f)] [(.ref a1)]))
  refine Gl.pre (fun _ k => XS.iconst X0.here hx rfl (hb hby d1_1) k) ?_
  show Gl p.tables e below PP (s₁.setTop (mkF m 2 #[.val (.ref a1), .val (.int f)] [(.int (0 : Int32)), (.ref a1)]))
  refine Gl.pre (fun _ k => XS.iloadN X0.here hx rfl (hb hby d1_2) rfl k) ?_
  show Gl p.tables e below PP (s₁.setTop (mkF m 3 #[.val (.ref a1), .val (.int f)] [(.int f), (.int (0 : Int32)), (.ref a1)]))
  obtain ⟨T1, h1, X1, e1, W1, V1, st1⟩ := own_stB X0 hx hZ e0 V_a1 (j := (0 : Int32)) (i := 0) (by decide) (by decide) (Nat.lt_of_lt_of_eq (by decide : 0 < 9) rfl) (g := (mkF m 3 #[.val (.ref a1), .val (.int f)] [(.int f), (.int (0 : Int32)), (.ref a1)])) rfl rfl (hb hby d1_3)
  refine Gl.pre (fun _ k => st1 _ k) ?_
  have Z1 : n0 ≤ h1.size := by rw [W1.size]; exact Z0
  have N1 := Fr.snoc X1 N0 g_a1
  have K1 := K0.wr W1 (Or.inl (List.mem_of_getElem? (i := 0) rfl))
  have V_a1 : Bal Z h1 a1 .byte [(nar .byte f), (0 : Int32), (0 : Int32), (0 : Int32), (0 : Int32), (0 : Int32), (0 : Int32), (0 : Int32), (0 : Int32)] := V1
  show Gl p.tables e below PP (T1.setTop (mkF m 4 #[.val (.ref a1), .val (.int f)] []))
  refine Gl.pre (fun _ k => XS.aloadN X1.here hx rfl (hb hby d1_4) rfl rfl k) ?_
  show Gl p.tables e below PP (T1.setTop (mkF m 5 #[.val (.ref a1), .val (.int f)] [(.ref a1)]))
  refine Gl.pre (fun _ k => XS.iconst X1.here hx rfl (hb hby d1_5) k) ?_
  show Gl p.tables e below PP (T1.setTop (mkF m 6 #[.val (.ref a1), .val (.int f)] [(.int (1 : Int32)), (.ref a1)]))
  refine Gl.pre (fun _ k => XS.iloadN X1.here hx rfl (hb hby d1_6) rfl k) ?_
  show Gl p.tables e below PP (T1.setTop (mkF m 7 #[.val (.ref a1), .val (.int f)] [(.int f), (.int (1 : Int32)), (.ref a1)]))
  obtain ⟨T2, h2, X2, e2, W2, V2, st2⟩ := own_stB X1 hx hZ e1 V_a1 (j := (1 : Int32)) (i := 1) (by decide) (by decide) (Nat.lt_of_lt_of_eq (by decide : 1 < 9) rfl) (g := (mkF m 7 #[.val (.ref a1), .val (.int f)] [(.int f), (.int (1 : Int32)), (.ref a1)])) rfl rfl (hb hby d1_7)
  refine Gl.pre (fun _ k => st2 _ k) ?_
  have Z2 : n0 ≤ h2.size := by rw [W2.size]; exact Z1
  have N2 := Fr.snoc X2 N1 g_a1
  have K2 := K1.wr W2 (Or.inl (List.mem_of_getElem? (i := 0) rfl))
  have V_a1 : Bal Z h2 a1 .byte [(nar .byte f), (nar .byte f), (0 : Int32), (0 : Int32), (0 : Int32), (0 : Int32), (0 : Int32), (0 : Int32), (0 : Int32)] := V2
  show Gl p.tables e below PP (T2.setTop (mkF m 8 #[.val (.ref a1), .val (.int f)] []))
  refine Gl.pre (fun _ k => XS.aloadN X2.here hx rfl (hb hby d1_8) rfl rfl k) ?_
  show Gl p.tables e below PP (T2.setTop (mkF m 9 #[.val (.ref a1), .val (.int f)] [(.ref a1)]))
  refine Gl.pre (fun _ k => XS.iconst X2.here hx rfl (hb hby d1_9) k) ?_
  show Gl p.tables e below PP (T2.setTop (mkF m 10 #[.val (.ref a1), .val (.int f)] [(.int (2 : Int32)), (.ref a1)]))
  refine Gl.pre (fun _ k => XS.iloadN X2.here hx rfl (hb hby d1_10) rfl k) ?_
  show Gl p.tables e below PP (T2.setTop (mkF m 11 #[.val (.ref a1), .val (.int f)] [(.int f), (.int (2 : Int32)), (.ref a1)]))
  obtain ⟨T3, h3, X3, e3, W3, V3, st3⟩ := own_stB X2 hx hZ e2 V_a1 (j := (2 : Int32)) (i := 2) (by decide) (by decide) (Nat.lt_of_lt_of_eq (by decide : 2 < 9) rfl) (g := (mkF m 11 #[.val (.ref a1), .val (.int f)] [(.int f), (.int (2 : Int32)), (.ref a1)])) rfl rfl (hb hby d1_11)
  refine Gl.pre (fun _ k => st3 _ k) ?_
  have Z3 : n0 ≤ h3.size := by rw [W3.size]; exact Z2
  have N3 := Fr.snoc X3 N2 g_a1
  have K3 := K2.wr W3 (Or.inl (List.mem_of_getElem? (i := 0) rfl))
  have V_a1 : Bal Z h3 a1 .byte [(nar .byte f), (nar .byte f), (nar .byte f), (0 : Int32), (0 : Int32), (0 : Int32), (0 : Int32), (0 : Int32), (0 : Int32)] := V3
  show Gl p.tables e below PP (T3.setTop (mkF m 12 #[.val (.ref a1), .val (.int f)] []))
  refine Gl.pre (fun _ k => XS.aloadN X3.here hx rfl (hb hby d1_12) rfl rfl k) ?_
  show Gl p.tables e below PP (T3.setTop (mkF m 13 #[.val (.ref a1), .val (.int f)] [(.ref a1)]))
  refine Gl.pre (fun _ k => XS.iconst X3.here hx rfl (hb hby d1_13) k) ?_
  show Gl p.tables e below PP (T3.setTop (mkF m 14 #[.val (.ref a1), .val (.int f)] [(.int (3 : Int32)), (.ref a1)]))
  refine Gl.pre (fun _ k => XS.iloadN X3.here hx rfl (hb hby d1_14) rfl k) ?_
  show Gl p.tables e below PP (T3.setTop (mkF m 15 #[.val (.ref a1), .val (.int f)] [(.int f), (.int (3 : Int32)), (.ref a1)]))
  obtain ⟨T4, h4, X4, e4, W4, V4, st4⟩ := own_stB X3 hx hZ e3 V_a1 (j := (3 : Int32)) (i := 3) (by decide) (by decide) (Nat.lt_of_lt_of_eq (by decide : 3 < 9) rfl) (g := (mkF m 15 #[.val (.ref a1), .val (.int f)] [(.int f), (.int (3 : Int32)), (.ref a1)])) rfl rfl (hb hby d1_15)
  refine Gl.pre (fun _ k => st4 _ k) ?_
  have Z4 : n0 ≤ h4.size := by rw [W4.size]; exact Z3
  have N4 := Fr.snoc X4 N3 g_a1
  have K4 := K3.wr W4 (Or.inl (List.mem_of_getElem? (i := 0) rfl))
  have V_a1 : Bal Z h4 a1 .byte [(nar .byte f), (nar .byte f), (nar .byte f), (nar .byte f), (0 : Int32), (0 : Int32), (0 : Int32), (0 : Int32), (0 : Int32)] := V4
  show Gl p.tables e below PP (T4.setTop (mkF m 16 #[.val (.ref a1), .val (.int f)] []))
  refine Gl.pre (fun _ k => XS.aloadN X4.here hx rfl (hb hby d1_16) rfl rfl k) ?_
  show Gl p.tables e below PP (T4.setTop (mkF m 17 #[.val (.ref a1), .val (.int f)] [(.ref a1)]))
  refine Gl.pre (fun _ k => XS.iconst X4.here hx rfl (hb hby d1_17) k) ?_
  show Gl p.tables e below PP (T4.setTop (mkF m 18 #[.val (.ref a1), .val (.int f)] [(.int (4 : Int32)), (.ref a1)]))
  refine Gl.pre (fun _ k => XS.iloadN X4.here hx rfl (hb hby d1_18) rfl k) ?_
  show Gl p.tables e below PP (T4.setTop (mkF m 19 #[.val (.ref a1), .val (.int f)] [(.int f), (.int (4 : Int32)), (.ref a1)]))
  obtain ⟨T5, h5, X5, e5, W5, V5, st5⟩ := own_stB X4 hx hZ e4 V_a1 (j := (4 : Int32)) (i := 4) (by decide) (by decide) (Nat.lt_of_lt_of_eq (by decide : 4 < 9) rfl) (g := (mkF m 19 #[.val (.ref a1), .val (.int f)] [(.int f), (.int (4 : Int32)), (.ref a1)])) rfl rfl (hb hby d1_19)
  refine Gl.pre (fun _ k => st5 _ k) ?_
  have Z5 : n0 ≤ h5.size := by rw [W5.size]; exact Z4
  have N5 := Fr.snoc X5 N4 g_a1
  have K5 := K4.wr W5 (Or.inl (List.mem_of_getElem? (i := 0) rfl))
  have V_a1 : Bal Z h5 a1 .byte [(nar .byte f), (nar .byte f), (nar .byte f), (nar .byte f), (nar .byte f), (0 : Int32), (0 : Int32), (0 : Int32), (0 : Int32)] := V5
  show Gl p.tables e below PP (T5.setTop (mkF m 20 #[.val (.ref a1), .val (.int f)] []))
  refine Gl.pre (fun _ k => XS.aloadN X5.here hx rfl (hb hby d1_20) rfl rfl k) ?_
  show Gl p.tables e below PP (T5.setTop (mkF m 21 #[.val (.ref a1), .val (.int f)] [(.ref a1)]))
  refine Gl.pre (fun _ k => XS.iconst X5.here hx rfl (hb hby d1_21) k) ?_
  show Gl p.tables e below PP (T5.setTop (mkF m 22 #[.val (.ref a1), .val (.int f)] [(.int (5 : Int32)), (.ref a1)]))
  refine Gl.pre (fun _ k => XS.iloadN X5.here hx rfl (hb hby d1_22) rfl k) ?_
  show Gl p.tables e below PP (T5.setTop (mkF m 23 #[.val (.ref a1), .val (.int f)] [(.int f), (.int (5 : Int32)), (.ref a1)]))
  obtain ⟨T6, h6, X6, e6, W6, V6, st6⟩ := own_stB X5 hx hZ e5 V_a1 (j := (5 : Int32)) (i := 5) (by decide) (by decide) (Nat.lt_of_lt_of_eq (by decide : 5 < 9) rfl) (g := (mkF m 23 #[.val (.ref a1), .val (.int f)] [(.int f), (.int (5 : Int32)), (.ref a1)])) rfl rfl (hb hby d1_23)
  refine Gl.pre (fun _ k => st6 _ k) ?_
  have Z6 : n0 ≤ h6.size := by rw [W6.size]; exact Z5
  have N6 := Fr.snoc X6 N5 g_a1
  have K6 := K5.wr W6 (Or.inl (List.mem_of_getElem? (i := 0) rfl))
  have V_a1 : Bal Z h6 a1 .byte [(nar .byte f), (nar .byte f), (nar .byte f), (nar .byte f), (nar .byte f), (nar .byte f), (0 : Int32), (0 : Int32), (0 : Int32)] := V6
  show Gl p.tables e below PP (T6.setTop (mkF m 24 #[.val (.ref a1), .val (.int f)] []))
  refine Gl.pre (fun _ k => XS.aloadN X6.here hx rfl (hb hby d1_24) rfl rfl k) ?_
  show Gl p.tables e below PP (T6.setTop (mkF m 25 #[.val (.ref a1), .val (.int f)] [(.ref a1)]))
  refine Gl.pre (fun _ k => XS.bipush X6.here hx rfl (hb hby d1_25) k) ?_
  show Gl p.tables e below PP (T6.setTop (mkF m 27 #[.val (.ref a1), .val (.int f)] [(.int (6 : Int32)), (.ref a1)]))
  refine Gl.pre (fun _ k => XS.iloadN X6.here hx rfl (hb hby d1_27) rfl k) ?_
  show Gl p.tables e below PP (T6.setTop (mkF m 28 #[.val (.ref a1), .val (.int f)] [(.int f), (.int (6 : Int32)), (.ref a1)]))
  obtain ⟨T7, h7, X7, e7, W7, V7, st7⟩ := own_stB X6 hx hZ e6 V_a1 (j := (6 : Int32)) (i := 6) (by decide) (by decide) (Nat.lt_of_lt_of_eq (by decide : 6 < 9) rfl) (g := (mkF m 28 #[.val (.ref a1), .val (.int f)] [(.int f), (.int (6 : Int32)), (.ref a1)])) rfl rfl (hb hby d1_28)
  refine Gl.pre (fun _ k => st7 _ k) ?_
  have Z7 : n0 ≤ h7.size := by rw [W7.size]; exact Z6
  have N7 := Fr.snoc X7 N6 g_a1
  have K7 := K6.wr W7 (Or.inl (List.mem_of_getElem? (i := 0) rfl))
  have V_a1 : Bal Z h7 a1 .byte [(nar .byte f), (nar .byte f), (nar .byte f), (nar .byte f), (nar .byte f), (nar .byte f), (nar .byte f), (0 : Int32), (0 : Int32)] := V7
  show Gl p.tables e below PP (T7.setTop (mkF m 29 #[.val (.ref a1), .val (.int f)] []))
  refine Gl.pre (fun _ k => XS.aloadN X7.here hx rfl (hb hby d1_29) rfl rfl k) ?_
  show Gl p.tables e below PP (T7.setTop (mkF m 30 #[.val (.ref a1), .val (.int f)] [(.ref a1)]))
  refine Gl.pre (fun _ k => XS.bipush X7.here hx rfl (hb hby d1_30) k) ?_
  show Gl p.tables e below PP (T7.setTop (mkF m 32 #[.val (.ref a1), .val (.int f)] [(.int (7 : Int32)), (.ref a1)]))
  refine Gl.pre (fun _ k => XS.iloadN X7.here hx rfl (hb hby d1_32) rfl k) ?_
  show Gl p.tables e below PP (T7.setTop (mkF m 33 #[.val (.ref a1), .val (.int f)] [(.int f), (.int (7 : Int32)), (.ref a1)]))
  obtain ⟨T8, h8, X8, e8, W8, V8, st8⟩ := own_stB X7 hx hZ e7 V_a1 (j := (7 : Int32)) (i := 7) (by decide) (by decide) (Nat.lt_of_lt_of_eq (by decide : 7 < 9) rfl) (g := (mkF m 33 #[.val (.ref a1), .val (.int f)] [(.int f), (.int (7 : Int32)), (.ref a1)])) rfl rfl (hb hby d1_33)
  refine Gl.pre (fun _ k => st8 _ k) ?_
  have Z8 : n0 ≤ h8.size := by rw [W8.size]; exact Z7
  have N8 := Fr.snoc X8 N7 g_a1
  have K8 := K7.wr W8 (Or.inl (List.mem_of_getElem? (i := 0) rfl))
  have V_a1 : Bal Z h8 a1 .byte [(nar .byte f), (nar .byte f), (nar .byte f), (nar .byte f), (nar .byte f), (nar .byte f), (nar .byte f), (nar .byte f), (0 : Int32)] := V8
  show Gl p.tables e below PP (T8.setTop (mkF m 34 #[.val (.ref a1), .val (.int f)] []))
  refine Gl.pre (fun _ k => XS.aloadN X8.here hx rfl (hb hby d1_34) rfl rfl k) ?_
  show Gl p.tables e below PP (T8.setTop (mkF m 35 #[.val (.ref a1), .val (.int f)] [(.ref a1)]))
  refine Gl.pre (fun _ k => XS.bipush X8.here hx rfl (hb hby d1_35) k) ?_
  show Gl p.tables e below PP (T8.setTop (mkF m 37 #[.val (.ref a1), .val (.int f)] [(.int (8 : Int32)), (.ref a1)]))
  refine Gl.pre (fun _ k => XS.iloadN X8.here hx rfl (hb hby d1_37) rfl k) ?_
  show Gl p.tables e below PP (T8.setTop (mkF m 38 #[.val (.ref a1), .val (.int f)] [(.int f), (.int (8 : Int32)), (.ref a1)]))
  obtain ⟨T9, h9, X9, e9, W9, V9, st9⟩ := own_stB X8 hx hZ e8 V_a1 (j := (8 : Int32)) (i := 8) (by decide) (by decide) (Nat.lt_of_lt_of_eq (by decide : 8 < 9) rfl) (g := (mkF m 38 #[.val (.ref a1), .val (.int f)] [(.int f), (.int (8 : Int32)), (.ref a1)])) rfl rfl (hb hby d1_38)
  refine Gl.pre (fun _ k => st9 _ k) ?_
  have Z9 : n0 ≤ h9.size := by rw [W9.size]; exact Z8
  have N9 := Fr.snoc X9 N8 g_a1
  have K9 := K8.wr W9 (Or.inl (List.mem_of_getElem? (i := 0) rfl))
  have V_a1 : Bal Z h9 a1 .byte [(nar .byte f), (nar .byte f), (nar .byte f), (nar .byte f), (nar .byte f), (nar .byte f), (nar .byte f), (nar .byte f), (nar .byte f)] := V9
  show Gl p.tables e below PP (T9.setTop (mkF m 39 #[.val (.ref a1), .val (.int f)] []))
  rw [hPP]
  refine own_finV (Q := (Q1 Z a1 f h0 n0)) X9 hx hlk Bd.returns (hb hby d1_39) ?_ (by decide) (by decide)
  show Q1 Z a1 f h0 n0 _ T9.heap _
  rw [e9]
  exact ⟨rfl, N9, K9, V_a1⟩
theorem d2_0 : decode method_3_code 0 = .ok (.iload_n 2, 1) := by decide +kernel
theorem d2_1 : decode method_3_code 1 = .ok (.iload 5, 2) := by decide +kernel
theorem d2_3 : decode method_3_code 3 = .ok (.if_icmp .ge 41, 3) := by decide +kernel
theorem d2_6 : decode method_3_code 6 = .ok (.lload_n 3, 1) := by decide +kernel
theorem d2_7 : decode method_3_code 7 = .ok (.bipush 7, 2) := by decide +kernel
theorem d2_9 : decode method_3_code 9 = .ok (.iload_n 2, 1) := by decide +kernel
theorem d2_10 : decode method_3_code 10 = .ok (.imul, 1) := by decide +kernel
theorem d2_11 : decode method_3_code 11 = .ok (.lushr, 1) := by decide +kernel
theorem d2_12 : decode method_3_code 12 = .ok (.ldc2_w 37, 3) := by decide +kernel
theorem d2_15 : decode method_3_code 15 = .ok (.land, 1) := by decide +kernel
theorem d2_16 : decode method_3_code 16 = .ok (.l2i, 1) := by decide +kernel
theorem d2_17 : decode method_3_code 17 = .ok (.istore 6, 2) := by decide +kernel
theorem d2_19 : decode method_3_code 19 = .ok (.aload_n 0, 1) := by decide +kernel
theorem d2_20 : decode method_3_code 20 = .ok (.iload_n 1, 1) := by decide +kernel
theorem d2_21 : decode method_3_code 21 = .ok (.iload_n 2, 1) := by decide +kernel
theorem d2_22 : decode method_3_code 22 = .ok (.iadd, 1) := by decide +kernel
theorem d2_23 : decode method_3_code 23 = .ok (.iload_n 2, 1) := by decide +kernel
theorem d2_24 : decode method_3_code 24 = .ok (.iload 5, 2) := by decide +kernel
theorem d2_26 : decode method_3_code 26 = .ok (.iconst 1, 1) := by decide +kernel
theorem d2_27 : decode method_3_code 27 = .ok (.isub, 1) := by decide +kernel
theorem d2_28 : decode method_3_code 28 = .ok (.if_icmp .ge 12, 3) := by decide +kernel
theorem d2_31 : decode method_3_code 31 = .ok (.iload 6, 2) := by decide +kernel
theorem d2_33 : decode method_3_code 33 = .ok (.sipush 128, 3) := by decide +kernel
theorem d2_36 : decode method_3_code 36 = .ok (.ior, 1) := by decide +kernel
theorem d2_37 : decode method_3_code 37 = .ok (.goto 5, 3) := by decide +kernel
theorem d2_40 : decode method_3_code 40 = .ok (.iload 6, 2) := by decide +kernel
theorem d2_42 : decode method_3_code 42 = .ok (.i2b, 1) := by decide +kernel
theorem d2_43 : decode method_3_code 43 = .ok (.bastore, 1) := by decide +kernel
theorem d2_44 : decode method_3_code 44 = .ok (.return_, 1) := by decide +kernel
theorem pn_2 : plainName "io/heapwire/FrameOutputPutVarintPinLaw" = true := by first | (simp [plainName, overriddenIn]; done) | decide +kernel
theorem ef_2 (m : MethodId) (a1 : Addr) (pa : Int32) (pk : Int32) (u : Int64) (pn : Int32) (xs : List Int32) : entryFrame m #[(.ref a1), (.int pa), (.int pk), (.long u), (.int pn)] 7 = mkF m 0 #[.val (.ref a1), .val (.int pa), .val (.int pk), .val (.long u), .second, .val (.int pn), .unset] [] := by first | (simp [entryFrame, mkF, argsToLocals, Value.category]; done) | rfl
def Q2 (Z : State) (a1 : Addr) (pa : Int32) (pk : Int32) (u : Int64) (pn : Int32) (xs : List Int32) (h0 : Heap) (n0 : Nat) (v : Option Value) (h : Heap) (L : List Loc) : Prop := v = none ∧ Fr n0 L ∧ Keep h0 h [a1] ∧ Bal Z h a1 .byte (own_put xs pa pk u pn)
set_option maxRecDepth 65536 in
set_option maxHeartbeats 40000000 in
theorem rm2 (l : Launch) (Z : State) (a0 : Array Value) (hw : ∀ d ∈ tables_1, d.before a0 Z = true) (ws : List Jvm.Cond) (a1 : Addr) (pa : Int32) (pk : Int32) (u : Int64) (pn : Int32) (xs : List Int32) (h0 : Heap) (n0 : Nat) (Z0 : n0 ≤ h0.size) (V_a1 : Bal Z h0 a1 .byte xs) (g_a1 : n0 ≤ a1) (hnn : ¬ (pa + pk < 0)) (hlt : (pa + pk).toNatClampNeg < xs.length) :
    MetFree l (⟨"io/heapwire/FrameOutputPutVarintPinLaw", "put", "([BIIJI)V"⟩ : MethodName) (head1 (Jvm.Cond.code (⟨"io/heapwire/FrameOutputPutVarintPinLaw", "put", "([BIIJI)V"⟩ : MethodName) method_3_code 7 none :: ws) ({ frames := 0, cells := 0, slots := 0, locals := 0 } : Room)) (fun a U => a = #[(.ref a1), (.int pa), (.int pk), (.long u), (.int pn)] ∧ Z.Warmed39 U.vm ∧ U.heap = h0) (fun _ _ _ _ _ => True) (fun _ U o U' => ∃ v L, o = .returned v ∧ Q2 Z a1 pa pk u pn xs h0 n0 v U'.heap L ∧ FrameEnd U o U' L ({ frames := 0, cells := 0, slots := 0, locals := 0 } : Room).cells ({ frames := 0, cells := 0, slots := 0, locals := 0 } : Room).slots) := by
  refine MetFree.of_bodySF (plainFor_of_name pn_2) hisR ?_
  intro p e s m args below meth c s₁ Bd hml0 hP hK
  obtain ⟨rfl, hZ, hh⟩ := hP
  have hx := Bd.exec
  have hby := Bd.bytes
  have hlk : meth.locks = false := BodyLoose.notSynchronized Bd
  have hml : c.maxLocals = 7 := hml0
  have hown : s.vm.findClass "io/heapwire/FrameOutputPutVarintPinLaw" = some m.cls := findClass_of_methodNamed Bd.named
  have hnm := (name_of_methodNamed Bd.named Bd.method).1
  have X0 : Stand p l e ({ frames := 0, cells := 0, slots := 0, locals := 0 } : Room) s m #[(.ref a1), (.int pa), (.int pk), (.long u), (.int pn)] below meth c s₁ [] 0 0 := Stand.of_body Bd
  have e0 : s₁.heap = h0 := by rw [← hh, Bd.state]; rfl
  have N0 := Fr.nil n0
  show Gl p.tables e below (fun (o : Outcome) (U' : State) => ∃ v L, o = .returned v ∧ Q2 Z a1 pa pk u pn xs h0 n0 v U'.heap L ∧ FrameEnd s o U' L ({ frames := 0, cells := 0, slots := 0, locals := 0 } : Room).cells ({ frames := 0, cells := 0, slots := 0, locals := 0 } : Room).slots) _
  refine Gl.pre (fun t k => castTop (ef_2 m a1 pa pk u pn xs) k) ?_
  obtain ⟨PP, hPP⟩ : ∃ P : Outcome → State → Prop, P = (fun (o : Outcome) (U' : State) => ∃ v L, o = .returned v ∧ Q2 Z a1 pa pk u pn xs h0 n0 v U'.heap L ∧ FrameEnd s o U' L ({ frames := 0, cells := 0, slots := 0, locals := 0 } : Room).cells ({ frames := 0, cells := 0, slots := 0, locals := 0 } : Room).slots) := ⟨_, rfl⟩
  rw [← hPP]
  have K0 : Keep h0 h0 [a1] := Keep.refl h0 _
  show Gl p.tables e below PP (s₁.setTop (mkF m 0 #[.val (.ref a1), .val (.int pa), .val (.int pk), .val (.long u), .second, .val (.int pn), .unset] []))
  refine Gl.pre (fun _ k => XS.iloadN X0.here hx rfl (hb hby d2_0) rfl k) ?_
  show Gl p.tables e below PP (s₁.setTop (mkF m 1 #[.val (.ref a1), .val (.int pa), .val (.int pk), .val (.long u), .second, .val (.int pn), .unset] [(.int pk)]))
  refine Gl.pre (fun _ k => XS.iload X0.here hx rfl (hb hby d2_1) rfl k) ?_
  show Gl p.tables e below PP (s₁.setTop (mkF m 3 #[.val (.ref a1), .val (.int pa), .val (.int pk), .val (.long u), .second, .val (.int pn), .unset] [(.int pn), (.int pk)]))
  by_cases hc1 : pk < pn
  · refine Gl.pre (fun _ k => XS.icmpNo X0.here hx rfl (hb hby d2_3) rfl (tlt hc1).2.1 k) ?_
    show Gl p.tables e below PP (s₁.setTop (mkF m 6 #[.val (.ref a1), .val (.int pa), .val (.int pk), .val (.long u), .second, .val (.int pn), .unset] []))
    refine Gl.pre (fun _ k => XS.lloadN X0.here hx rfl (hb hby d2_6) rfl k) ?_
    show Gl p.tables e below PP (s₁.setTop (mkF m 7 #[.val (.ref a1), .val (.int pa), .val (.int pk), .val (.long u), .second, .val (.int pn), .unset] [(.long u)]))
    refine Gl.pre (fun _ k => XS.bipush X0.here hx rfl (hb hby d2_7) k) ?_
    show Gl p.tables e below PP (s₁.setTop (mkF m 9 #[.val (.ref a1), .val (.int pa), .val (.int pk), .val (.long u), .second, .val (.int pn), .unset] [(.int (7 : Int32)), (.long u)]))
    refine Gl.pre (fun _ k => XS.iloadN X0.here hx rfl (hb hby d2_9) rfl k) ?_
    show Gl p.tables e below PP (s₁.setTop (mkF m 10 #[.val (.ref a1), .val (.int pa), .val (.int pk), .val (.long u), .second, .val (.int pn), .unset] [(.int pk), (.int (7 : Int32)), (.long u)]))
    refine Gl.pre (fun _ k => XS.imul X0.here hx rfl (hb hby d2_10) rfl k) ?_
    show Gl p.tables e below PP (s₁.setTop (mkF m 11 #[.val (.ref a1), .val (.int pa), .val (.int pk), .val (.long u), .second, .val (.int pn), .unset] [(.int ((7 : Int32) * pk)), (.long u)]))
    refine Gl.pre (fun _ k => XS.lushr X0.here hx rfl (hb hby d2_11) rfl k) ?_
    show Gl p.tables e below PP (s₁.setTop (mkF m 12 #[.val (.ref a1), .val (.int pa), .val (.int pk), .val (.long u), .second, .val (.int pn), .unset] [(.long (own_ushrL u ((7 : Int32) * pk)))]))
    refine Gl.pre (fun _ k => X0.ldc2Long hx hown (mvT hZ (hw _ (List.mem_of_getElem? (i := 10) rfl))) (g := (mkF m 12 #[.val (.ref a1), .val (.int pa), .val (.int pk), .val (.long u), .second, .val (.int pn), .unset] [(.long (own_ushrL u ((7 : Int32) * pk)))])) rfl (hb hby d2_12) _ k) ?_
    show Gl p.tables e below PP (s₁.setTop (mkF m 15 #[.val (.ref a1), .val (.int pa), .val (.int pk), .val (.long u), .second, .val (.int pn), .unset] [(.long (127 : Int64)), (.long (own_ushrL u ((7 : Int32) * pk)))]))
    refine Gl.pre (fun _ k => XS.land X0.here hx rfl (hb hby d2_15) rfl k) ?_
    show Gl p.tables e below PP (s₁.setTop (mkF m 16 #[.val (.ref a1), .val (.int pa), .val (.int pk), .val (.long u), .second, .val (.int pn), .unset] [(.long ((own_ushrL u ((7 : Int32) * pk)) &&& (127 : Int64)))]))
    refine Gl.pre (fun _ k => XS.l2i X0.here hx rfl (hb hby d2_16) rfl k) ?_
    show Gl p.tables e below PP (s₁.setTop (mkF m 17 #[.val (.ref a1), .val (.int pa), .val (.int pk), .val (.long u), .second, .val (.int pn), .unset] [(.int (((own_ushrL u ((7 : Int32) * pk)) &&& (127 : Int64)).toInt32))]))
    refine Gl.pre (fun _ k => XS.istore X0.here hx rfl (hb hby d2_17) rfl (l' := #[.val (.ref a1), .val (.int pa), .val (.int pk), .val (.long u), .second, .val (.int pn), .val (.int (((own_ushrL u ((7 : Int32) * pk)) &&& (127 : Int64)).toInt32))]) rfl k) ?_
    show Gl p.tables e below PP (s₁.setTop (mkF m 19 #[.val (.ref a1), .val (.int pa), .val (.int pk), .val (.long u), .second, .val (.int pn), .val (.int (((own_ushrL u ((7 : Int32) * pk)) &&& (127 : Int64)).toInt32))] []))
    refine Gl.pre (fun _ k => XS.aloadN X0.here hx rfl (hb hby d2_19) rfl rfl k) ?_
    show Gl p.tables e below PP (s₁.setTop (mkF m 20 #[.val (.ref a1), .val (.int pa), .val (.int pk), .val (.long u), .second, .val (.int pn), .val (.int (((own_ushrL u ((7 : Int32) * pk)) &&& (127 : Int64)).toInt32))] [(.ref a1)]))
    refine Gl.pre (fun _ k => XS.iloadN X0.here hx rfl (hb hby d2_20) rfl k) ?_
    show Gl p.tables e below PP (s₁.setTop (mkF m 21 #[.val (.ref a1), .val (.int pa), .val (.int pk), .val (.long u), .second, .val (.int pn), .val (.int (((own_ushrL u ((7 : Int32) * pk)) &&& (127 : Int64)).toInt32))] [(.int pa), (.ref a1)]))
    refine Gl.pre (fun _ k => XS.iloadN X0.here hx rfl (hb hby d2_21) rfl k) ?_
    show Gl p.tables e below PP (s₁.setTop (mkF m 22 #[.val (.ref a1), .val (.int pa), .val (.int pk), .val (.long u), .second, .val (.int pn), .val (.int (((own_ushrL u ((7 : Int32) * pk)) &&& (127 : Int64)).toInt32))] [(.int pk), (.int pa), (.ref a1)]))
    refine Gl.pre (fun _ k => XS.iadd X0.here hx rfl (hb hby d2_22) rfl k) ?_
    show Gl p.tables e below PP (s₁.setTop (mkF m 23 #[.val (.ref a1), .val (.int pa), .val (.int pk), .val (.long u), .second, .val (.int pn), .val (.int (((own_ushrL u ((7 : Int32) * pk)) &&& (127 : Int64)).toInt32))] [(.int (pa + pk)), (.ref a1)]))
    refine Gl.pre (fun _ k => XS.iloadN X0.here hx rfl (hb hby d2_23) rfl k) ?_
    show Gl p.tables e below PP (s₁.setTop (mkF m 24 #[.val (.ref a1), .val (.int pa), .val (.int pk), .val (.long u), .second, .val (.int pn), .val (.int (((own_ushrL u ((7 : Int32) * pk)) &&& (127 : Int64)).toInt32))] [(.int pk), (.int (pa + pk)), (.ref a1)]))
    refine Gl.pre (fun _ k => XS.iload X0.here hx rfl (hb hby d2_24) rfl k) ?_
    show Gl p.tables e below PP (s₁.setTop (mkF m 26 #[.val (.ref a1), .val (.int pa), .val (.int pk), .val (.long u), .second, .val (.int pn), .val (.int (((own_ushrL u ((7 : Int32) * pk)) &&& (127 : Int64)).toInt32))] [(.int pn), (.int pk), (.int (pa + pk)), (.ref a1)]))
    refine Gl.pre (fun _ k => XS.iconst X0.here hx rfl (hb hby d2_26) k) ?_
    show Gl p.tables e below PP (s₁.setTop (mkF m 27 #[.val (.ref a1), .val (.int pa), .val (.int pk), .val (.long u), .second, .val (.int pn), .val (.int (((own_ushrL u ((7 : Int32) * pk)) &&& (127 : Int64)).toInt32))] [(.int (1 : Int32)), (.int pn), (.int pk), (.int (pa + pk)), (.ref a1)]))
    refine Gl.pre (fun _ k => XS.isub X0.here hx rfl (hb hby d2_27) rfl k) ?_
    show Gl p.tables e below PP (s₁.setTop (mkF m 28 #[.val (.ref a1), .val (.int pa), .val (.int pk), .val (.long u), .second, .val (.int pn), .val (.int (((own_ushrL u ((7 : Int32) * pk)) &&& (127 : Int64)).toInt32))] [(.int (pn - (1 : Int32))), (.int pk), (.int (pa + pk)), (.ref a1)]))
    by_cases hc2 : pk < (pn - (1 : Int32))
    · refine Gl.pre (fun _ k => XS.icmpNo X0.here hx rfl (hb hby d2_28) rfl (tlt hc2).2.1 k) ?_
      show Gl p.tables e below PP (s₁.setTop (mkF m 31 #[.val (.ref a1), .val (.int pa), .val (.int pk), .val (.long u), .second, .val (.int pn), .val (.int (((own_ushrL u ((7 : Int32) * pk)) &&& (127 : Int64)).toInt32))] [(.int (pa + pk)), (.ref a1)]))
      refine Gl.pre (fun _ k => XS.iload X0.here hx rfl (hb hby d2_31) rfl k) ?_
      show Gl p.tables e below PP (s₁.setTop (mkF m 33 #[.val (.ref a1), .val (.int pa), .val (.int pk), .val (.long u), .second, .val (.int pn), .val (.int (((own_ushrL u ((7 : Int32) * pk)) &&& (127 : Int64)).toInt32))] [(.int (((own_ushrL u ((7 : Int32) * pk)) &&& (127 : Int64)).toInt32)), (.int (pa + pk)), (.ref a1)]))
      refine Gl.pre (fun _ k => XS.sipush X0.here hx rfl (hb hby d2_33) k) ?_
      show Gl p.tables e below PP (s₁.setTop (mkF m 36 #[.val (.ref a1), .val (.int pa), .val (.int pk), .val (.long u), .second, .val (.int pn), .val (.int (((own_ushrL u ((7 : Int32) * pk)) &&& (127 : Int64)).toInt32))] [(.int (128 : Int32)), (.int (((own_ushrL u ((7 : Int32) * pk)) &&& (127 : Int64)).toInt32)), (.int (pa + pk)), (.ref a1)]))
      refine Gl.pre (fun _ k => XS.ior X0.here hx rfl (hb hby d2_36) rfl k) ?_
      show Gl p.tables e below PP (s₁.setTop (mkF m 37 #[.val (.ref a1), .val (.int pa), .val (.int pk), .val (.long u), .second, .val (.int pn), .val (.int (((own_ushrL u ((7 : Int32) * pk)) &&& (127 : Int64)).toInt32))] [(.int ((((own_ushrL u ((7 : Int32) * pk)) &&& (127 : Int64)).toInt32) ||| (128 : Int32))), (.int (pa + pk)), (.ref a1)]))
      refine Gl.pre (fun _ k => XS.goto X0.here hx rfl (pc0 := 37) (pc' := 42) rfl (hb hby d2_37) (by decide) (by decide) k) ?_
      show Gl p.tables e below PP (s₁.setTop (mkF m 42 #[.val (.ref a1), .val (.int pa), .val (.int pk), .val (.long u), .second, .val (.int pn), .val (.int (((own_ushrL u ((7 : Int32) * pk)) &&& (127 : Int64)).toInt32))] [(.int ((((own_ushrL u ((7 : Int32) * pk)) &&& (127 : Int64)).toInt32) ||| (128 : Int32))), (.int (pa + pk)), (.ref a1)]))
      refine Gl.pre (fun _ k => XS.i2b X0.here hx rfl (hb hby d2_42) rfl k) ?_
      show Gl p.tables e below PP (s₁.setTop (mkF m 43 #[.val (.ref a1), .val (.int pa), .val (.int pk), .val (.long u), .second, .val (.int pn), .val (.int (((own_ushrL u ((7 : Int32) * pk)) &&& (127 : Int64)).toInt32))] [(.int (((((own_ushrL u ((7 : Int32) * pk)) &&& (127 : Int64)).toInt32) ||| (128 : Int32)).toInt8.toInt32)), (.int (pa + pk)), (.ref a1)]))
      obtain ⟨T3, h3, X3, e3, W3, V3, st3⟩ := own_stB X0 hx hZ e0 V_a1 (j := (pa + pk)) (i := ((pa + pk)).toNatClampNeg) hnn rfl hlt (g := (mkF m 43 #[.val (.ref a1), .val (.int pa), .val (.int pk), .val (.long u), .second, .val (.int pn), .val (.int (((own_ushrL u ((7 : Int32) * pk)) &&& (127 : Int64)).toInt32))] [(.int (((((own_ushrL u ((7 : Int32) * pk)) &&& (127 : Int64)).toInt32) ||| (128 : Int32)).toInt8.toInt32)), (.int (pa + pk)), (.ref a1)])) rfl rfl (hb hby d2_43)
      refine Gl.pre (fun _ k => st3 _ k) ?_
      have Z3 : n0 ≤ h3.size := by rw [W3.size]; exact Z0
      have N3 := Fr.snoc X3 N0 g_a1
      have K3 := K0.wr W3 (Or.inl (List.mem_of_getElem? (i := 0) rfl))
      have V_a1 := V3
      show Gl p.tables e below PP (T3.setTop (mkF m 44 #[.val (.ref a1), .val (.int pa), .val (.int pk), .val (.long u), .second, .val (.int pn), .val (.int (((own_ushrL u ((7 : Int32) * pk)) &&& (127 : Int64)).toInt32))] []))
      rw [hPP]
      refine own_finV (Q := (Q2 Z a1 pa pk u pn xs h0 n0)) X3 hx hlk Bd.returns (hb hby d2_44) ?_ (by decide) (by decide)
      show Q2 Z a1 pa pk u pn xs h0 n0 _ T3.heap _
      rw [e3]
      refine ⟨rfl, N3, K3, ?_⟩
      rw [own_put, if_pos hc1, if_pos hc2]; exact V_a1
    · refine Gl.pre (fun _ k => XS.icmpYes X0.here hx rfl (pc0 := 28) (pc' := 40) rfl (hb hby d2_28) rfl (flt hc2).2.1 (by decide) (by decide) k) ?_
      show Gl p.tables e below PP (s₁.setTop (mkF m 40 #[.val (.ref a1), .val (.int pa), .val (.int pk), .val (.long u), .second, .val (.int pn), .val (.int (((own_ushrL u ((7 : Int32) * pk)) &&& (127 : Int64)).toInt32))] [(.int (pa + pk)), (.ref a1)]))
      refine Gl.pre (fun _ k => XS.iload X0.here hx rfl (hb hby d2_40) rfl k) ?_
      show Gl p.tables e below PP (s₁.setTop (mkF m 42 #[.val (.ref a1), .val (.int pa), .val (.int pk), .val (.long u), .second, .val (.int pn), .val (.int (((own_ushrL u ((7 : Int32) * pk)) &&& (127 : Int64)).toInt32))] [(.int (((own_ushrL u ((7 : Int32) * pk)) &&& (127 : Int64)).toInt32)), (.int (pa + pk)), (.ref a1)]))
      refine Gl.pre (fun _ k => XS.i2b X0.here hx rfl (hb hby d2_42) rfl k) ?_
      show Gl p.tables e below PP (s₁.setTop (mkF m 43 #[.val (.ref a1), .val (.int pa), .val (.int pk), .val (.long u), .second, .val (.int pn), .val (.int (((own_ushrL u ((7 : Int32) * pk)) &&& (127 : Int64)).toInt32))] [(.int ((((own_ushrL u ((7 : Int32) * pk)) &&& (127 : Int64)).toInt32).toInt8.toInt32)), (.int (pa + pk)), (.ref a1)]))
      obtain ⟨T4, h4, X4, e4, W4, V4, st4⟩ := own_stB X0 hx hZ e0 V_a1 (j := (pa + pk)) (i := ((pa + pk)).toNatClampNeg) hnn rfl hlt (g := (mkF m 43 #[.val (.ref a1), .val (.int pa), .val (.int pk), .val (.long u), .second, .val (.int pn), .val (.int (((own_ushrL u ((7 : Int32) * pk)) &&& (127 : Int64)).toInt32))] [(.int ((((own_ushrL u ((7 : Int32) * pk)) &&& (127 : Int64)).toInt32).toInt8.toInt32)), (.int (pa + pk)), (.ref a1)])) rfl rfl (hb hby d2_43)
      refine Gl.pre (fun _ k => st4 _ k) ?_
      have Z4 : n0 ≤ h4.size := by rw [W4.size]; exact Z0
      have N4 := Fr.snoc X4 N0 g_a1
      have K4 := K0.wr W4 (Or.inl (List.mem_of_getElem? (i := 0) rfl))
      have V_a1 := V4
      show Gl p.tables e below PP (T4.setTop (mkF m 44 #[.val (.ref a1), .val (.int pa), .val (.int pk), .val (.long u), .second, .val (.int pn), .val (.int (((own_ushrL u ((7 : Int32) * pk)) &&& (127 : Int64)).toInt32))] []))
      rw [hPP]
      refine own_finV (Q := (Q2 Z a1 pa pk u pn xs h0 n0)) X4 hx hlk Bd.returns (hb hby d2_44) ?_ (by decide) (by decide)
      show Q2 Z a1 pa pk u pn xs h0 n0 _ T4.heap _
      rw [e4]
      refine ⟨rfl, N4, K4, ?_⟩
      rw [own_put, if_pos hc1, if_neg hc2]; exact V_a1
  · refine Gl.pre (fun _ k => XS.icmpYes X0.here hx rfl (pc0 := 3) (pc' := 44) rfl (hb hby d2_3) rfl (flt hc1).2.1 (by decide) (by decide) k) ?_
    show Gl p.tables e below PP (s₁.setTop (mkF m 44 #[.val (.ref a1), .val (.int pa), .val (.int pk), .val (.long u), .second, .val (.int pn), .unset] []))
    rw [hPP]
    refine own_finV (Q := (Q2 Z a1 pa pk u pn xs h0 n0)) X0 hx hlk Bd.returns (hb hby d2_44) ?_ (by decide) (by decide)
    show Q2 Z a1 pa pk u pn xs h0 n0 _ s₁.heap _
    rw [e0]
    refine ⟨rfl, N0, K0, ?_⟩
    rw [own_put, if_neg hc1]; exact V_a1
theorem d3_0 : decode prog_30_method_11_code 0 = .ok (.iload_n 2, 1) := by decide +kernel
theorem d3_1 : decode prog_30_method_11_code 1 = .ok (.bipush (-128), 2) := by decide +kernel
theorem d3_3 : decode prog_30_method_11_code 3 = .ok (.iand, 1) := by decide +kernel
theorem d3_4 : decode prog_30_method_11_code 4 = .ok (.ifCond .ne 12, 3) := by decide +kernel
theorem d3_7 : decode prog_30_method_11_code 7 = .ok (.aload_n 0, 1) := by decide +kernel
theorem d3_8 : decode prog_30_method_11_code 8 = .ok (.iload_n 1, 1) := by decide +kernel
theorem d3_9 : decode prog_30_method_11_code 9 = .ok (.iload_n 2, 1) := by decide +kernel
theorem d3_10 : decode prog_30_method_11_code 10 = .ok (.i2b, 1) := by decide +kernel
theorem d3_11 : decode prog_30_method_11_code 11 = .ok (.bastore, 1) := by decide +kernel
theorem d3_12 : decode prog_30_method_11_code 12 = .ok (.iload_n 1, 1) := by decide +kernel
theorem d3_13 : decode prog_30_method_11_code 13 = .ok (.iconst 1, 1) := by decide +kernel
theorem d3_14 : decode prog_30_method_11_code 14 = .ok (.iadd, 1) := by decide +kernel
theorem d3_15 : decode prog_30_method_11_code 15 = .ok (.ireturn, 1) := by decide +kernel
theorem d3_16 : decode prog_30_method_11_code 16 = .ok (.iload_n 1, 1) := by decide +kernel
theorem d3_17 : decode prog_30_method_11_code 17 = .ok (.istore_n 3, 1) := by decide +kernel
theorem d3_18 : decode prog_30_method_11_code 18 = .ok (.iload_n 2, 1) := by decide +kernel
theorem d3_19 : decode prog_30_method_11_code 19 = .ok (.istore 4, 2) := by decide +kernel
theorem d3_21 : decode prog_30_method_11_code 21 = .ok (.iload 4, 2) := by decide +kernel
theorem d3_23 : decode prog_30_method_11_code 23 = .ok (.bipush (-128), 2) := by decide +kernel
theorem d3_25 : decode prog_30_method_11_code 25 = .ok (.iand, 1) := by decide +kernel
theorem d3_26 : decode prog_30_method_11_code 26 = .ok (.ifCond .eq 29, 3) := by decide +kernel
theorem d3_29 : decode prog_30_method_11_code 29 = .ok (.aload_n 0, 1) := by decide +kernel
theorem d3_30 : decode prog_30_method_11_code 30 = .ok (.iload_n 3, 1) := by decide +kernel
theorem d3_31 : decode prog_30_method_11_code 31 = .ok (.iinc 3 1, 3) := by decide +kernel
theorem d3_34 : decode prog_30_method_11_code 34 = .ok (.iload 4, 2) := by decide +kernel
theorem d3_36 : decode prog_30_method_11_code 36 = .ok (.bipush 127, 2) := by decide +kernel
theorem d3_38 : decode prog_30_method_11_code 38 = .ok (.iand, 1) := by decide +kernel
theorem d3_39 : decode prog_30_method_11_code 39 = .ok (.sipush 128, 3) := by decide +kernel
theorem d3_42 : decode prog_30_method_11_code 42 = .ok (.ior, 1) := by decide +kernel
theorem d3_43 : decode prog_30_method_11_code 43 = .ok (.i2b, 1) := by decide +kernel
theorem d3_44 : decode prog_30_method_11_code 44 = .ok (.bastore, 1) := by decide +kernel
theorem d3_45 : decode prog_30_method_11_code 45 = .ok (.iload 4, 2) := by decide +kernel
theorem d3_47 : decode prog_30_method_11_code 47 = .ok (.bipush 7, 2) := by decide +kernel
theorem d3_49 : decode prog_30_method_11_code 49 = .ok (.iushr, 1) := by decide +kernel
theorem d3_50 : decode prog_30_method_11_code 50 = .ok (.istore 4, 2) := by decide +kernel
theorem d3_52 : decode prog_30_method_11_code 52 = .ok (.goto (-31), 3) := by decide +kernel
theorem d3_55 : decode prog_30_method_11_code 55 = .ok (.aload_n 0, 1) := by decide +kernel
theorem d3_56 : decode prog_30_method_11_code 56 = .ok (.iload_n 3, 1) := by decide +kernel
theorem d3_57 : decode prog_30_method_11_code 57 = .ok (.iinc 3 1, 3) := by decide +kernel
theorem d3_60 : decode prog_30_method_11_code 60 = .ok (.iload 4, 2) := by decide +kernel
theorem d3_62 : decode prog_30_method_11_code 62 = .ok (.i2b, 1) := by decide +kernel
theorem d3_63 : decode prog_30_method_11_code 63 = .ok (.bastore, 1) := by decide +kernel
theorem d3_64 : decode prog_30_method_11_code 64 = .ok (.iload_n 3, 1) := by decide +kernel
theorem d3_65 : decode prog_30_method_11_code 65 = .ok (.ireturn, 1) := by decide +kernel
theorem pn_3 : plainName "io/heapwire/FrameOutput" = true := by first | (simp [plainName, overriddenIn]; done) | decide +kernel
theorem ef_3 (m : MethodId) (a1 : Addr) (pa : Int32) (q : Int32) (xs : List Int32) : entryFrame m #[(.ref a1), (.int pa), (.int q)] 5 = mkF m 0 #[.val (.ref a1), .val (.int pa), .val (.int q), .unset, .unset] [] := by first | (simp [entryFrame, mkF, argsToLocals, Value.category]; done) | rfl
def Q3 (Z : State) (a1 : Addr) (pa : Int32) (q : Int32) (xs : List Int32) (h0 : Heap) (n0 : Nat) (v : Option Value) (h : Heap) (L : List Loc) : Prop := v = some (.int (own_vr pa q)) ∧ Fr n0 L ∧ Keep h0 h [a1] ∧ Bal Z h a1 .byte (own_vl xs pa q)
set_option maxRecDepth 65536 in
set_option maxHeartbeats 40000000 in
theorem rm3 (l : Launch) (Z : State) (a0 : Array Value) (hw : ∀ d ∈ tables_1, d.before a0 Z = true) (ws : List Jvm.Cond) (a1 : Addr) (pa : Int32) (q : Int32) (xs : List Int32) (h0 : Heap) (n0 : Nat) (Z0 : n0 ≤ h0.size) (V_a1 : Bal Z h0 a1 .byte xs) (g_a1 : n0 ≤ a1) (hp : pa = 0 ∨ pa = 1 ∨ pa = 2 ∨ pa = 3) (hlen : xs.length = 9) :
    MetFree l (⟨"io/heapwire/FrameOutput", "putVarint", "([BII)I"⟩ : MethodName) (head1 (Jvm.Cond.code (⟨"io/heapwire/FrameOutput", "putVarint", "([BII)I"⟩ : MethodName) prog_30_method_11_code 5 (some .int) :: ws) ({ frames := 0, cells := 0, slots := 0, locals := 0 } : Room)) (fun a U => a = #[(.ref a1), (.int pa), (.int q)] ∧ Z.Warmed39 U.vm ∧ U.heap = h0) (fun _ _ _ _ _ => True) (fun _ U o U' => ∃ v L, o = .returned v ∧ Q3 Z a1 pa q xs h0 n0 v U'.heap L ∧ FrameEnd U o U' L ({ frames := 0, cells := 0, slots := 0, locals := 0 } : Room).cells ({ frames := 0, cells := 0, slots := 0, locals := 0 } : Room).slots) := by
  refine MetFree.of_bodySF (plainFor_of_name pn_3) hisR ?_
  intro p e s m args below meth c s₁ Bd hml0 hP hK
  obtain ⟨rfl, hZ, hh⟩ := hP
  have hx := Bd.exec
  have hby := Bd.bytes
  have hlk : meth.locks = false := BodyLoose.notSynchronized Bd
  have hml : c.maxLocals = 5 := hml0
  have hown : s.vm.findClass "io/heapwire/FrameOutput" = some m.cls := findClass_of_methodNamed Bd.named
  have hnm := (name_of_methodNamed Bd.named Bd.method).1
  have X0 : Stand p l e ({ frames := 0, cells := 0, slots := 0, locals := 0 } : Room) s m #[(.ref a1), (.int pa), (.int q)] below meth c s₁ [] 0 0 := Stand.of_body Bd
  have e0 : s₁.heap = h0 := by rw [← hh, Bd.state]; rfl
  have N0 := Fr.nil n0
  show Gl p.tables e below (fun (o : Outcome) (U' : State) => ∃ v L, o = .returned v ∧ Q3 Z a1 pa q xs h0 n0 v U'.heap L ∧ FrameEnd s o U' L ({ frames := 0, cells := 0, slots := 0, locals := 0 } : Room).cells ({ frames := 0, cells := 0, slots := 0, locals := 0 } : Room).slots) _
  refine Gl.pre (fun t k => castTop (ef_3 m a1 pa q xs) k) ?_
  obtain ⟨PP, hPP⟩ : ∃ P : Outcome → State → Prop, P = (fun (o : Outcome) (U' : State) => ∃ v L, o = .returned v ∧ Q3 Z a1 pa q xs h0 n0 v U'.heap L ∧ FrameEnd s o U' L ({ frames := 0, cells := 0, slots := 0, locals := 0 } : Room).cells ({ frames := 0, cells := 0, slots := 0, locals := 0 } : Room).slots) := ⟨_, rfl⟩
  rw [← hPP]
  have K0 : Keep h0 h0 [a1] := Keep.refl h0 _
  show Gl p.tables e below PP (s₁.setTop (mkF m 0 #[.val (.ref a1), .val (.int pa), .val (.int q), .unset, .unset] []))
  refine Gl.pre (fun _ k => XS.iloadN X0.here hx rfl (hb hby d3_0) rfl k) ?_
  show Gl p.tables e below PP (s₁.setTop (mkF m 1 #[.val (.ref a1), .val (.int pa), .val (.int q), .unset, .unset] [(.int q)]))
  refine Gl.pre (fun _ k => XS.bipush X0.here hx rfl (hb hby d3_1) k) ?_
  show Gl p.tables e below PP (s₁.setTop (mkF m 3 #[.val (.ref a1), .val (.int pa), .val (.int q), .unset, .unset] [(.int (-128 : Int32)), (.int q)]))
  refine Gl.pre (fun _ k => XS.iand X0.here hx rfl (hb hby d3_3) rfl k) ?_
  show Gl p.tables e below PP (s₁.setTop (mkF m 4 #[.val (.ref a1), .val (.int pa), .val (.int q), .unset, .unset] [(.int (q &&& (-128 : Int32)))]))
  by_cases hc1 : (q &&& (-128 : Int32)) = (0 : Int32)
  · refine Gl.pre (fun _ k => XS.ifNo X0.here hx rfl (hb hby d3_4) rfl ((if0 _ _).trans (teq hc1).2) k) ?_
    show Gl p.tables e below PP (s₁.setTop (mkF m 7 #[.val (.ref a1), .val (.int pa), .val (.int q), .unset, .unset] []))
    refine Gl.pre (fun _ k => XS.aloadN X0.here hx rfl (hb hby d3_7) rfl rfl k) ?_
    show Gl p.tables e below PP (s₁.setTop (mkF m 8 #[.val (.ref a1), .val (.int pa), .val (.int q), .unset, .unset] [(.ref a1)]))
    refine Gl.pre (fun _ k => XS.iloadN X0.here hx rfl (hb hby d3_8) rfl k) ?_
    show Gl p.tables e below PP (s₁.setTop (mkF m 9 #[.val (.ref a1), .val (.int pa), .val (.int q), .unset, .unset] [(.int pa), (.ref a1)]))
    refine Gl.pre (fun _ k => XS.iloadN X0.here hx rfl (hb hby d3_9) rfl k) ?_
    show Gl p.tables e below PP (s₁.setTop (mkF m 10 #[.val (.ref a1), .val (.int pa), .val (.int q), .unset, .unset] [(.int q), (.int pa), (.ref a1)]))
    refine Gl.pre (fun _ k => XS.i2b X0.here hx rfl (hb hby d3_10) rfl k) ?_
    show Gl p.tables e below PP (s₁.setTop (mkF m 11 #[.val (.ref a1), .val (.int pa), .val (.int q), .unset, .unset] [(.int (q.toInt8.toInt32)), (.int pa), (.ref a1)]))
    obtain ⟨T2, h2, X2, e2, W2, V2, st2⟩ := own_stB X0 hx hZ e0 V_a1 (j := pa) (i := (pa).toNatClampNeg) (by rcases hp with rfl | rfl | rfl | rfl <;> decide) rfl (by simp only [List.length_set, hlen]; rcases hp with rfl | rfl | rfl | rfl <;> decide) (g := (mkF m 11 #[.val (.ref a1), .val (.int pa), .val (.int q), .unset, .unset] [(.int (q.toInt8.toInt32)), (.int pa), (.ref a1)])) rfl rfl (hb hby d3_11)
    refine Gl.pre (fun _ k => st2 _ k) ?_
    have Z2 : n0 ≤ h2.size := by rw [W2.size]; exact Z0
    have N2 := Fr.snoc X2 N0 g_a1
    have K2 := K0.wr W2 (Or.inl (List.mem_of_getElem? (i := 0) rfl))
    have V_a1 := V2
    show Gl p.tables e below PP (T2.setTop (mkF m 12 #[.val (.ref a1), .val (.int pa), .val (.int q), .unset, .unset] []))
    refine Gl.pre (fun _ k => XS.iloadN X2.here hx rfl (hb hby d3_12) rfl k) ?_
    show Gl p.tables e below PP (T2.setTop (mkF m 13 #[.val (.ref a1), .val (.int pa), .val (.int q), .unset, .unset] [(.int pa)]))
    refine Gl.pre (fun _ k => XS.iconst X2.here hx rfl (hb hby d3_13) k) ?_
    show Gl p.tables e below PP (T2.setTop (mkF m 14 #[.val (.ref a1), .val (.int pa), .val (.int q), .unset, .unset] [(.int (1 : Int32)), (.int pa)]))
    refine Gl.pre (fun _ k => XS.iadd X2.here hx rfl (hb hby d3_14) rfl k) ?_
    show Gl p.tables e below PP (T2.setTop (mkF m 15 #[.val (.ref a1), .val (.int pa), .val (.int q), .unset, .unset] [(.int (pa + (1 : Int32)))]))
    rw [hPP]
    refine own_finI (Q := (Q3 Z a1 pa q xs h0 n0)) X2 hx hlk Bd.returns (hb hby d3_15) ?_ (by decide) (by decide)
    show Q3 Z a1 pa q xs h0 n0 _ T2.heap _
    rw [e2]
    refine ⟨?_, N2, K2, ?_⟩
    · rw [own_vr, if_pos hc1]
    · rw [own_vl, if_pos hc1]; exact V_a1
  · refine Gl.pre (fun _ k => XS.ifYes X0.here hx rfl (pc0 := 4) (pc' := 16) rfl (hb hby d3_4) rfl ((if0 _ _).trans (feq hc1).2) (by decide) (by decide) k) ?_
    show Gl p.tables e below PP (s₁.setTop (mkF m 16 #[.val (.ref a1), .val (.int pa), .val (.int q), .unset, .unset] []))
    refine Gl.pre (fun _ k => XS.iloadN X0.here hx rfl (hb hby d3_16) rfl k) ?_
    show Gl p.tables e below PP (s₁.setTop (mkF m 17 #[.val (.ref a1), .val (.int pa), .val (.int q), .unset, .unset] [(.int pa)]))
    refine Gl.pre (fun _ k => XS.istoreN X0.here hx rfl (hb hby d3_17) rfl (l' := #[.val (.ref a1), .val (.int pa), .val (.int q), .val (.int pa), .unset]) rfl k) ?_
    show Gl p.tables e below PP (s₁.setTop (mkF m 18 #[.val (.ref a1), .val (.int pa), .val (.int q), .val (.int pa), .unset] []))
    refine Gl.pre (fun _ k => XS.iloadN X0.here hx rfl (hb hby d3_18) rfl k) ?_
    show Gl p.tables e below PP (s₁.setTop (mkF m 19 #[.val (.ref a1), .val (.int pa), .val (.int q), .val (.int pa), .unset] [(.int q)]))
    refine Gl.pre (fun _ k => XS.istore X0.here hx rfl (hb hby d3_19) rfl (l' := #[.val (.ref a1), .val (.int pa), .val (.int q), .val (.int pa), .val (.int q)]) rfl k) ?_
    show Gl p.tables e below PP (s₁.setTop (mkF m 21 #[.val (.ref a1), .val (.int pa), .val (.int q), .val (.int pa), .val (.int q)] []))
    refine Gl.pre (fun _ k => XS.iload X0.here hx rfl (hb hby d3_21) rfl k) ?_
    show Gl p.tables e below PP (s₁.setTop (mkF m 23 #[.val (.ref a1), .val (.int pa), .val (.int q), .val (.int pa), .val (.int q)] [(.int q)]))
    refine Gl.pre (fun _ k => XS.bipush X0.here hx rfl (hb hby d3_23) k) ?_
    show Gl p.tables e below PP (s₁.setTop (mkF m 25 #[.val (.ref a1), .val (.int pa), .val (.int q), .val (.int pa), .val (.int q)] [(.int (-128 : Int32)), (.int q)]))
    refine Gl.pre (fun _ k => XS.iand X0.here hx rfl (hb hby d3_25) rfl k) ?_
    show Gl p.tables e below PP (s₁.setTop (mkF m 26 #[.val (.ref a1), .val (.int pa), .val (.int q), .val (.int pa), .val (.int q)] [(.int (q &&& (-128 : Int32)))]))
    refine Gl.pre (fun _ k => XS.ifNo X0.here hx rfl (hb hby d3_26) rfl ((if0 _ _).trans (feq (show ¬ ((q &&& (-128 : Int32)) = (0 : Int32)) from hc1)).1) k) ?_
    show Gl p.tables e below PP (s₁.setTop (mkF m 29 #[.val (.ref a1), .val (.int pa), .val (.int q), .val (.int pa), .val (.int q)] []))
    refine Gl.pre (fun _ k => XS.aloadN X0.here hx rfl (hb hby d3_29) rfl rfl k) ?_
    show Gl p.tables e below PP (s₁.setTop (mkF m 30 #[.val (.ref a1), .val (.int pa), .val (.int q), .val (.int pa), .val (.int q)] [(.ref a1)]))
    refine Gl.pre (fun _ k => XS.iloadN X0.here hx rfl (hb hby d3_30) rfl k) ?_
    show Gl p.tables e below PP (s₁.setTop (mkF m 31 #[.val (.ref a1), .val (.int pa), .val (.int q), .val (.int pa), .val (.int q)] [(.int pa), (.ref a1)]))
    refine Gl.pre (fun _ k => XS.iinc X0.here hx rfl (hb hby d3_31) rfl (l' := #[.val (.ref a1), .val (.int pa), .val (.int q), .val (.int (pa + (1 : Int32))), .val (.int q)]) rfl k) ?_
    show Gl p.tables e below PP (s₁.setTop (mkF m 34 #[.val (.ref a1), .val (.int pa), .val (.int q), .val (.int (pa + (1 : Int32))), .val (.int q)] [(.int pa), (.ref a1)]))
    refine Gl.pre (fun _ k => XS.iload X0.here hx rfl (hb hby d3_34) rfl k) ?_
    show Gl p.tables e below PP (s₁.setTop (mkF m 36 #[.val (.ref a1), .val (.int pa), .val (.int q), .val (.int (pa + (1 : Int32))), .val (.int q)] [(.int q), (.int pa), (.ref a1)]))
    refine Gl.pre (fun _ k => XS.bipush X0.here hx rfl (hb hby d3_36) k) ?_
    show Gl p.tables e below PP (s₁.setTop (mkF m 38 #[.val (.ref a1), .val (.int pa), .val (.int q), .val (.int (pa + (1 : Int32))), .val (.int q)] [(.int (127 : Int32)), (.int q), (.int pa), (.ref a1)]))
    refine Gl.pre (fun _ k => XS.iand X0.here hx rfl (hb hby d3_38) rfl k) ?_
    show Gl p.tables e below PP (s₁.setTop (mkF m 39 #[.val (.ref a1), .val (.int pa), .val (.int q), .val (.int (pa + (1 : Int32))), .val (.int q)] [(.int (q &&& (127 : Int32))), (.int pa), (.ref a1)]))
    refine Gl.pre (fun _ k => XS.sipush X0.here hx rfl (hb hby d3_39) k) ?_
    show Gl p.tables e below PP (s₁.setTop (mkF m 42 #[.val (.ref a1), .val (.int pa), .val (.int q), .val (.int (pa + (1 : Int32))), .val (.int q)] [(.int (128 : Int32)), (.int (q &&& (127 : Int32))), (.int pa), (.ref a1)]))
    refine Gl.pre (fun _ k => XS.ior X0.here hx rfl (hb hby d3_42) rfl k) ?_
    show Gl p.tables e below PP (s₁.setTop (mkF m 43 #[.val (.ref a1), .val (.int pa), .val (.int q), .val (.int (pa + (1 : Int32))), .val (.int q)] [(.int ((q &&& (127 : Int32)) ||| (128 : Int32))), (.int pa), (.ref a1)]))
    refine Gl.pre (fun _ k => XS.i2b X0.here hx rfl (hb hby d3_43) rfl k) ?_
    show Gl p.tables e below PP (s₁.setTop (mkF m 44 #[.val (.ref a1), .val (.int pa), .val (.int q), .val (.int (pa + (1 : Int32))), .val (.int q)] [(.int (((q &&& (127 : Int32)) ||| (128 : Int32)).toInt8.toInt32)), (.int pa), (.ref a1)]))
    obtain ⟨T3, h3, X3, e3, W3, V3, st3⟩ := own_stB X0 hx hZ e0 V_a1 (j := pa) (i := (pa).toNatClampNeg) (by rcases hp with rfl | rfl | rfl | rfl <;> decide) rfl (by simp only [List.length_set, hlen]; rcases hp with rfl | rfl | rfl | rfl <;> decide) (g := (mkF m 44 #[.val (.ref a1), .val (.int pa), .val (.int q), .val (.int (pa + (1 : Int32))), .val (.int q)] [(.int (((q &&& (127 : Int32)) ||| (128 : Int32)).toInt8.toInt32)), (.int pa), (.ref a1)])) rfl rfl (hb hby d3_44)
    refine Gl.pre (fun _ k => st3 _ k) ?_
    have Z3 : n0 ≤ h3.size := by rw [W3.size]; exact Z0
    have N3 := Fr.snoc X3 N0 g_a1
    have K3 := K0.wr W3 (Or.inl (List.mem_of_getElem? (i := 0) rfl))
    have V_a1 := V3
    show Gl p.tables e below PP (T3.setTop (mkF m 45 #[.val (.ref a1), .val (.int pa), .val (.int q), .val (.int (pa + (1 : Int32))), .val (.int q)] []))
    refine Gl.pre (fun _ k => XS.iload X3.here hx rfl (hb hby d3_45) rfl k) ?_
    show Gl p.tables e below PP (T3.setTop (mkF m 47 #[.val (.ref a1), .val (.int pa), .val (.int q), .val (.int (pa + (1 : Int32))), .val (.int q)] [(.int q)]))
    refine Gl.pre (fun _ k => XS.bipush X3.here hx rfl (hb hby d3_47) k) ?_
    show Gl p.tables e below PP (T3.setTop (mkF m 49 #[.val (.ref a1), .val (.int pa), .val (.int q), .val (.int (pa + (1 : Int32))), .val (.int q)] [(.int (7 : Int32)), (.int q)]))
    refine Gl.pre (fun _ k => XS.iushr X3.here hx rfl (hb hby d3_49) rfl k) ?_
    show Gl p.tables e below PP (T3.setTop (mkF m 50 #[.val (.ref a1), .val (.int pa), .val (.int q), .val (.int (pa + (1 : Int32))), .val (.int q)] [(.int (own_ushr q (7 : Int32)))]))
    refine Gl.pre (fun _ k => XS.istore X3.here hx rfl (hb hby d3_50) rfl (l' := #[.val (.ref a1), .val (.int pa), .val (.int q), .val (.int (pa + (1 : Int32))), .val (.int (own_ushr q (7 : Int32)))]) rfl k) ?_
    show Gl p.tables e below PP (T3.setTop (mkF m 52 #[.val (.ref a1), .val (.int pa), .val (.int q), .val (.int (pa + (1 : Int32))), .val (.int (own_ushr q (7 : Int32)))] []))
    refine Gl.pre (fun _ k => XS.goto X3.here hx rfl (pc0 := 52) (pc' := 21) rfl (hb hby d3_52) (by decide) (by decide) k) ?_
    show Gl p.tables e below PP (T3.setTop (mkF m 21 #[.val (.ref a1), .val (.int pa), .val (.int q), .val (.int (pa + (1 : Int32))), .val (.int (own_ushr q (7 : Int32)))] []))
    refine Gl.pre (fun _ k => XS.iload X3.here hx rfl (hb hby d3_21) rfl k) ?_
    show Gl p.tables e below PP (T3.setTop (mkF m 23 #[.val (.ref a1), .val (.int pa), .val (.int q), .val (.int (pa + (1 : Int32))), .val (.int (own_ushr q (7 : Int32)))] [(.int (own_ushr q (7 : Int32)))]))
    refine Gl.pre (fun _ k => XS.bipush X3.here hx rfl (hb hby d3_23) k) ?_
    show Gl p.tables e below PP (T3.setTop (mkF m 25 #[.val (.ref a1), .val (.int pa), .val (.int q), .val (.int (pa + (1 : Int32))), .val (.int (own_ushr q (7 : Int32)))] [(.int (-128 : Int32)), (.int (own_ushr q (7 : Int32)))]))
    refine Gl.pre (fun _ k => XS.iand X3.here hx rfl (hb hby d3_25) rfl k) ?_
    show Gl p.tables e below PP (T3.setTop (mkF m 26 #[.val (.ref a1), .val (.int pa), .val (.int q), .val (.int (pa + (1 : Int32))), .val (.int (own_ushr q (7 : Int32)))] [(.int ((own_ushr q (7 : Int32)) &&& (-128 : Int32)))]))
    by_cases hc4 : ((own_ushr q (7 : Int32)) &&& (-128 : Int32)) = (0 : Int32)
    · refine Gl.pre (fun _ k => XS.ifYes X3.here hx rfl (pc0 := 26) (pc' := 55) rfl (hb hby d3_26) rfl ((if0 _ _).trans (teq hc4).1) (by decide) (by decide) k) ?_
      show Gl p.tables e below PP (T3.setTop (mkF m 55 #[.val (.ref a1), .val (.int pa), .val (.int q), .val (.int (pa + (1 : Int32))), .val (.int (own_ushr q (7 : Int32)))] []))
      refine Gl.pre (fun _ k => XS.aloadN X3.here hx rfl (hb hby d3_55) rfl rfl k) ?_
      show Gl p.tables e below PP (T3.setTop (mkF m 56 #[.val (.ref a1), .val (.int pa), .val (.int q), .val (.int (pa + (1 : Int32))), .val (.int (own_ushr q (7 : Int32)))] [(.ref a1)]))
      refine Gl.pre (fun _ k => XS.iloadN X3.here hx rfl (hb hby d3_56) rfl k) ?_
      show Gl p.tables e below PP (T3.setTop (mkF m 57 #[.val (.ref a1), .val (.int pa), .val (.int q), .val (.int (pa + (1 : Int32))), .val (.int (own_ushr q (7 : Int32)))] [(.int (pa + (1 : Int32))), (.ref a1)]))
      refine Gl.pre (fun _ k => XS.iinc X3.here hx rfl (hb hby d3_57) rfl (l' := #[.val (.ref a1), .val (.int pa), .val (.int q), .val (.int ((pa + (1 : Int32)) + (1 : Int32))), .val (.int (own_ushr q (7 : Int32)))]) rfl k) ?_
      show Gl p.tables e below PP (T3.setTop (mkF m 60 #[.val (.ref a1), .val (.int pa), .val (.int q), .val (.int ((pa + (1 : Int32)) + (1 : Int32))), .val (.int (own_ushr q (7 : Int32)))] [(.int (pa + (1 : Int32))), (.ref a1)]))
      refine Gl.pre (fun _ k => XS.iload X3.here hx rfl (hb hby d3_60) rfl k) ?_
      show Gl p.tables e below PP (T3.setTop (mkF m 62 #[.val (.ref a1), .val (.int pa), .val (.int q), .val (.int ((pa + (1 : Int32)) + (1 : Int32))), .val (.int (own_ushr q (7 : Int32)))] [(.int (own_ushr q (7 : Int32))), (.int (pa + (1 : Int32))), (.ref a1)]))
      refine Gl.pre (fun _ k => XS.i2b X3.here hx rfl (hb hby d3_62) rfl k) ?_
      show Gl p.tables e below PP (T3.setTop (mkF m 63 #[.val (.ref a1), .val (.int pa), .val (.int q), .val (.int ((pa + (1 : Int32)) + (1 : Int32))), .val (.int (own_ushr q (7 : Int32)))] [(.int ((own_ushr q (7 : Int32)).toInt8.toInt32)), (.int (pa + (1 : Int32))), (.ref a1)]))
      obtain ⟨T5, h5, X5, e5, W5, V5, st5⟩ := own_stB X3 hx hZ e3 V_a1 (j := (pa + (1 : Int32))) (i := ((pa + (1 : Int32))).toNatClampNeg) (by rcases hp with rfl | rfl | rfl | rfl <;> decide) rfl (by simp only [List.length_set, hlen]; rcases hp with rfl | rfl | rfl | rfl <;> decide) (g := (mkF m 63 #[.val (.ref a1), .val (.int pa), .val (.int q), .val (.int ((pa + (1 : Int32)) + (1 : Int32))), .val (.int (own_ushr q (7 : Int32)))] [(.int ((own_ushr q (7 : Int32)).toInt8.toInt32)), (.int (pa + (1 : Int32))), (.ref a1)])) rfl rfl (hb hby d3_63)
      refine Gl.pre (fun _ k => st5 _ k) ?_
      have Z5 : n0 ≤ h5.size := by rw [W5.size]; exact Z3
      have N5 := Fr.snoc X5 N3 g_a1
      have K5 := K3.wr W5 (Or.inl (List.mem_of_getElem? (i := 0) rfl))
      have V_a1 := V5
      show Gl p.tables e below PP (T5.setTop (mkF m 64 #[.val (.ref a1), .val (.int pa), .val (.int q), .val (.int ((pa + (1 : Int32)) + (1 : Int32))), .val (.int (own_ushr q (7 : Int32)))] []))
      refine Gl.pre (fun _ k => XS.iloadN X5.here hx rfl (hb hby d3_64) rfl k) ?_
      show Gl p.tables e below PP (T5.setTop (mkF m 65 #[.val (.ref a1), .val (.int pa), .val (.int q), .val (.int ((pa + (1 : Int32)) + (1 : Int32))), .val (.int (own_ushr q (7 : Int32)))] [(.int ((pa + (1 : Int32)) + (1 : Int32)))]))
      rw [hPP]
      refine own_finI (Q := (Q3 Z a1 pa q xs h0 n0)) X5 hx hlk Bd.returns (hb hby d3_65) ?_ (by decide) (by decide)
      show Q3 Z a1 pa q xs h0 n0 _ T5.heap _
      rw [e5]
      refine ⟨?_, N5, K5, ?_⟩
      · rw [own_vr, if_neg hc1, if_pos hc4]
      · rw [own_vl, if_neg hc1, if_pos hc4]; exact V_a1
    · refine Gl.pre (fun _ k => XS.ifNo X3.here hx rfl (hb hby d3_26) rfl ((if0 _ _).trans (feq hc4).1) k) ?_
      show Gl p.tables e below PP (T3.setTop (mkF m 29 #[.val (.ref a1), .val (.int pa), .val (.int q), .val (.int (pa + (1 : Int32))), .val (.int (own_ushr q (7 : Int32)))] []))
      refine Gl.pre (fun _ k => XS.aloadN X3.here hx rfl (hb hby d3_29) rfl rfl k) ?_
      show Gl p.tables e below PP (T3.setTop (mkF m 30 #[.val (.ref a1), .val (.int pa), .val (.int q), .val (.int (pa + (1 : Int32))), .val (.int (own_ushr q (7 : Int32)))] [(.ref a1)]))
      refine Gl.pre (fun _ k => XS.iloadN X3.here hx rfl (hb hby d3_30) rfl k) ?_
      show Gl p.tables e below PP (T3.setTop (mkF m 31 #[.val (.ref a1), .val (.int pa), .val (.int q), .val (.int (pa + (1 : Int32))), .val (.int (own_ushr q (7 : Int32)))] [(.int (pa + (1 : Int32))), (.ref a1)]))
      refine Gl.pre (fun _ k => XS.iinc X3.here hx rfl (hb hby d3_31) rfl (l' := #[.val (.ref a1), .val (.int pa), .val (.int q), .val (.int ((pa + (1 : Int32)) + (1 : Int32))), .val (.int (own_ushr q (7 : Int32)))]) rfl k) ?_
      show Gl p.tables e below PP (T3.setTop (mkF m 34 #[.val (.ref a1), .val (.int pa), .val (.int q), .val (.int ((pa + (1 : Int32)) + (1 : Int32))), .val (.int (own_ushr q (7 : Int32)))] [(.int (pa + (1 : Int32))), (.ref a1)]))
      refine Gl.pre (fun _ k => XS.iload X3.here hx rfl (hb hby d3_34) rfl k) ?_
      show Gl p.tables e below PP (T3.setTop (mkF m 36 #[.val (.ref a1), .val (.int pa), .val (.int q), .val (.int ((pa + (1 : Int32)) + (1 : Int32))), .val (.int (own_ushr q (7 : Int32)))] [(.int (own_ushr q (7 : Int32))), (.int (pa + (1 : Int32))), (.ref a1)]))
      refine Gl.pre (fun _ k => XS.bipush X3.here hx rfl (hb hby d3_36) k) ?_
      show Gl p.tables e below PP (T3.setTop (mkF m 38 #[.val (.ref a1), .val (.int pa), .val (.int q), .val (.int ((pa + (1 : Int32)) + (1 : Int32))), .val (.int (own_ushr q (7 : Int32)))] [(.int (127 : Int32)), (.int (own_ushr q (7 : Int32))), (.int (pa + (1 : Int32))), (.ref a1)]))
      refine Gl.pre (fun _ k => XS.iand X3.here hx rfl (hb hby d3_38) rfl k) ?_
      show Gl p.tables e below PP (T3.setTop (mkF m 39 #[.val (.ref a1), .val (.int pa), .val (.int q), .val (.int ((pa + (1 : Int32)) + (1 : Int32))), .val (.int (own_ushr q (7 : Int32)))] [(.int ((own_ushr q (7 : Int32)) &&& (127 : Int32))), (.int (pa + (1 : Int32))), (.ref a1)]))
      refine Gl.pre (fun _ k => XS.sipush X3.here hx rfl (hb hby d3_39) k) ?_
      show Gl p.tables e below PP (T3.setTop (mkF m 42 #[.val (.ref a1), .val (.int pa), .val (.int q), .val (.int ((pa + (1 : Int32)) + (1 : Int32))), .val (.int (own_ushr q (7 : Int32)))] [(.int (128 : Int32)), (.int ((own_ushr q (7 : Int32)) &&& (127 : Int32))), (.int (pa + (1 : Int32))), (.ref a1)]))
      refine Gl.pre (fun _ k => XS.ior X3.here hx rfl (hb hby d3_42) rfl k) ?_
      show Gl p.tables e below PP (T3.setTop (mkF m 43 #[.val (.ref a1), .val (.int pa), .val (.int q), .val (.int ((pa + (1 : Int32)) + (1 : Int32))), .val (.int (own_ushr q (7 : Int32)))] [(.int (((own_ushr q (7 : Int32)) &&& (127 : Int32)) ||| (128 : Int32))), (.int (pa + (1 : Int32))), (.ref a1)]))
      refine Gl.pre (fun _ k => XS.i2b X3.here hx rfl (hb hby d3_43) rfl k) ?_
      show Gl p.tables e below PP (T3.setTop (mkF m 44 #[.val (.ref a1), .val (.int pa), .val (.int q), .val (.int ((pa + (1 : Int32)) + (1 : Int32))), .val (.int (own_ushr q (7 : Int32)))] [(.int ((((own_ushr q (7 : Int32)) &&& (127 : Int32)) ||| (128 : Int32)).toInt8.toInt32)), (.int (pa + (1 : Int32))), (.ref a1)]))
      obtain ⟨T6, h6, X6, e6, W6, V6, st6⟩ := own_stB X3 hx hZ e3 V_a1 (j := (pa + (1 : Int32))) (i := ((pa + (1 : Int32))).toNatClampNeg) (by rcases hp with rfl | rfl | rfl | rfl <;> decide) rfl (by simp only [List.length_set, hlen]; rcases hp with rfl | rfl | rfl | rfl <;> decide) (g := (mkF m 44 #[.val (.ref a1), .val (.int pa), .val (.int q), .val (.int ((pa + (1 : Int32)) + (1 : Int32))), .val (.int (own_ushr q (7 : Int32)))] [(.int ((((own_ushr q (7 : Int32)) &&& (127 : Int32)) ||| (128 : Int32)).toInt8.toInt32)), (.int (pa + (1 : Int32))), (.ref a1)])) rfl rfl (hb hby d3_44)
      refine Gl.pre (fun _ k => st6 _ k) ?_
      have Z6 : n0 ≤ h6.size := by rw [W6.size]; exact Z3
      have N6 := Fr.snoc X6 N3 g_a1
      have K6 := K3.wr W6 (Or.inl (List.mem_of_getElem? (i := 0) rfl))
      have V_a1 := V6
      show Gl p.tables e below PP (T6.setTop (mkF m 45 #[.val (.ref a1), .val (.int pa), .val (.int q), .val (.int ((pa + (1 : Int32)) + (1 : Int32))), .val (.int (own_ushr q (7 : Int32)))] []))
      refine Gl.pre (fun _ k => XS.iload X6.here hx rfl (hb hby d3_45) rfl k) ?_
      show Gl p.tables e below PP (T6.setTop (mkF m 47 #[.val (.ref a1), .val (.int pa), .val (.int q), .val (.int ((pa + (1 : Int32)) + (1 : Int32))), .val (.int (own_ushr q (7 : Int32)))] [(.int (own_ushr q (7 : Int32)))]))
      refine Gl.pre (fun _ k => XS.bipush X6.here hx rfl (hb hby d3_47) k) ?_
      show Gl p.tables e below PP (T6.setTop (mkF m 49 #[.val (.ref a1), .val (.int pa), .val (.int q), .val (.int ((pa + (1 : Int32)) + (1 : Int32))), .val (.int (own_ushr q (7 : Int32)))] [(.int (7 : Int32)), (.int (own_ushr q (7 : Int32)))]))
      refine Gl.pre (fun _ k => XS.iushr X6.here hx rfl (hb hby d3_49) rfl k) ?_
      show Gl p.tables e below PP (T6.setTop (mkF m 50 #[.val (.ref a1), .val (.int pa), .val (.int q), .val (.int ((pa + (1 : Int32)) + (1 : Int32))), .val (.int (own_ushr q (7 : Int32)))] [(.int (own_ushr (own_ushr q (7 : Int32)) (7 : Int32)))]))
      refine Gl.pre (fun _ k => XS.istore X6.here hx rfl (hb hby d3_50) rfl (l' := #[.val (.ref a1), .val (.int pa), .val (.int q), .val (.int ((pa + (1 : Int32)) + (1 : Int32))), .val (.int (own_ushr (own_ushr q (7 : Int32)) (7 : Int32)))]) rfl k) ?_
      show Gl p.tables e below PP (T6.setTop (mkF m 52 #[.val (.ref a1), .val (.int pa), .val (.int q), .val (.int ((pa + (1 : Int32)) + (1 : Int32))), .val (.int (own_ushr (own_ushr q (7 : Int32)) (7 : Int32)))] []))
      refine Gl.pre (fun _ k => XS.goto X6.here hx rfl (pc0 := 52) (pc' := 21) rfl (hb hby d3_52) (by decide) (by decide) k) ?_
      show Gl p.tables e below PP (T6.setTop (mkF m 21 #[.val (.ref a1), .val (.int pa), .val (.int q), .val (.int ((pa + (1 : Int32)) + (1 : Int32))), .val (.int (own_ushr (own_ushr q (7 : Int32)) (7 : Int32)))] []))
      refine Gl.pre (fun _ k => XS.iload X6.here hx rfl (hb hby d3_21) rfl k) ?_
      show Gl p.tables e below PP (T6.setTop (mkF m 23 #[.val (.ref a1), .val (.int pa), .val (.int q), .val (.int ((pa + (1 : Int32)) + (1 : Int32))), .val (.int (own_ushr (own_ushr q (7 : Int32)) (7 : Int32)))] [(.int (own_ushr (own_ushr q (7 : Int32)) (7 : Int32)))]))
      refine Gl.pre (fun _ k => XS.bipush X6.here hx rfl (hb hby d3_23) k) ?_
      show Gl p.tables e below PP (T6.setTop (mkF m 25 #[.val (.ref a1), .val (.int pa), .val (.int q), .val (.int ((pa + (1 : Int32)) + (1 : Int32))), .val (.int (own_ushr (own_ushr q (7 : Int32)) (7 : Int32)))] [(.int (-128 : Int32)), (.int (own_ushr (own_ushr q (7 : Int32)) (7 : Int32)))]))
      refine Gl.pre (fun _ k => XS.iand X6.here hx rfl (hb hby d3_25) rfl k) ?_
      show Gl p.tables e below PP (T6.setTop (mkF m 26 #[.val (.ref a1), .val (.int pa), .val (.int q), .val (.int ((pa + (1 : Int32)) + (1 : Int32))), .val (.int (own_ushr (own_ushr q (7 : Int32)) (7 : Int32)))] [(.int ((own_ushr (own_ushr q (7 : Int32)) (7 : Int32)) &&& (-128 : Int32)))]))
      by_cases hc7 : ((own_ushr (own_ushr q (7 : Int32)) (7 : Int32)) &&& (-128 : Int32)) = (0 : Int32)
      · refine Gl.pre (fun _ k => XS.ifYes X6.here hx rfl (pc0 := 26) (pc' := 55) rfl (hb hby d3_26) rfl ((if0 _ _).trans (teq hc7).1) (by decide) (by decide) k) ?_
        show Gl p.tables e below PP (T6.setTop (mkF m 55 #[.val (.ref a1), .val (.int pa), .val (.int q), .val (.int ((pa + (1 : Int32)) + (1 : Int32))), .val (.int (own_ushr (own_ushr q (7 : Int32)) (7 : Int32)))] []))
        refine Gl.pre (fun _ k => XS.aloadN X6.here hx rfl (hb hby d3_55) rfl rfl k) ?_
        show Gl p.tables e below PP (T6.setTop (mkF m 56 #[.val (.ref a1), .val (.int pa), .val (.int q), .val (.int ((pa + (1 : Int32)) + (1 : Int32))), .val (.int (own_ushr (own_ushr q (7 : Int32)) (7 : Int32)))] [(.ref a1)]))
        refine Gl.pre (fun _ k => XS.iloadN X6.here hx rfl (hb hby d3_56) rfl k) ?_
        show Gl p.tables e below PP (T6.setTop (mkF m 57 #[.val (.ref a1), .val (.int pa), .val (.int q), .val (.int ((pa + (1 : Int32)) + (1 : Int32))), .val (.int (own_ushr (own_ushr q (7 : Int32)) (7 : Int32)))] [(.int ((pa + (1 : Int32)) + (1 : Int32))), (.ref a1)]))
        refine Gl.pre (fun _ k => XS.iinc X6.here hx rfl (hb hby d3_57) rfl (l' := #[.val (.ref a1), .val (.int pa), .val (.int q), .val (.int (((pa + (1 : Int32)) + (1 : Int32)) + (1 : Int32))), .val (.int (own_ushr (own_ushr q (7 : Int32)) (7 : Int32)))]) rfl k) ?_
        show Gl p.tables e below PP (T6.setTop (mkF m 60 #[.val (.ref a1), .val (.int pa), .val (.int q), .val (.int (((pa + (1 : Int32)) + (1 : Int32)) + (1 : Int32))), .val (.int (own_ushr (own_ushr q (7 : Int32)) (7 : Int32)))] [(.int ((pa + (1 : Int32)) + (1 : Int32))), (.ref a1)]))
        refine Gl.pre (fun _ k => XS.iload X6.here hx rfl (hb hby d3_60) rfl k) ?_
        show Gl p.tables e below PP (T6.setTop (mkF m 62 #[.val (.ref a1), .val (.int pa), .val (.int q), .val (.int (((pa + (1 : Int32)) + (1 : Int32)) + (1 : Int32))), .val (.int (own_ushr (own_ushr q (7 : Int32)) (7 : Int32)))] [(.int (own_ushr (own_ushr q (7 : Int32)) (7 : Int32))), (.int ((pa + (1 : Int32)) + (1 : Int32))), (.ref a1)]))
        refine Gl.pre (fun _ k => XS.i2b X6.here hx rfl (hb hby d3_62) rfl k) ?_
        show Gl p.tables e below PP (T6.setTop (mkF m 63 #[.val (.ref a1), .val (.int pa), .val (.int q), .val (.int (((pa + (1 : Int32)) + (1 : Int32)) + (1 : Int32))), .val (.int (own_ushr (own_ushr q (7 : Int32)) (7 : Int32)))] [(.int ((own_ushr (own_ushr q (7 : Int32)) (7 : Int32)).toInt8.toInt32)), (.int ((pa + (1 : Int32)) + (1 : Int32))), (.ref a1)]))
        obtain ⟨T8, h8, X8, e8, W8, V8, st8⟩ := own_stB X6 hx hZ e6 V_a1 (j := ((pa + (1 : Int32)) + (1 : Int32))) (i := (((pa + (1 : Int32)) + (1 : Int32))).toNatClampNeg) (by rcases hp with rfl | rfl | rfl | rfl <;> decide) rfl (by simp only [List.length_set, hlen]; rcases hp with rfl | rfl | rfl | rfl <;> decide) (g := (mkF m 63 #[.val (.ref a1), .val (.int pa), .val (.int q), .val (.int (((pa + (1 : Int32)) + (1 : Int32)) + (1 : Int32))), .val (.int (own_ushr (own_ushr q (7 : Int32)) (7 : Int32)))] [(.int ((own_ushr (own_ushr q (7 : Int32)) (7 : Int32)).toInt8.toInt32)), (.int ((pa + (1 : Int32)) + (1 : Int32))), (.ref a1)])) rfl rfl (hb hby d3_63)
        refine Gl.pre (fun _ k => st8 _ k) ?_
        have Z8 : n0 ≤ h8.size := by rw [W8.size]; exact Z6
        have N8 := Fr.snoc X8 N6 g_a1
        have K8 := K6.wr W8 (Or.inl (List.mem_of_getElem? (i := 0) rfl))
        have V_a1 := V8
        show Gl p.tables e below PP (T8.setTop (mkF m 64 #[.val (.ref a1), .val (.int pa), .val (.int q), .val (.int (((pa + (1 : Int32)) + (1 : Int32)) + (1 : Int32))), .val (.int (own_ushr (own_ushr q (7 : Int32)) (7 : Int32)))] []))
        refine Gl.pre (fun _ k => XS.iloadN X8.here hx rfl (hb hby d3_64) rfl k) ?_
        show Gl p.tables e below PP (T8.setTop (mkF m 65 #[.val (.ref a1), .val (.int pa), .val (.int q), .val (.int (((pa + (1 : Int32)) + (1 : Int32)) + (1 : Int32))), .val (.int (own_ushr (own_ushr q (7 : Int32)) (7 : Int32)))] [(.int (((pa + (1 : Int32)) + (1 : Int32)) + (1 : Int32)))]))
        rw [hPP]
        refine own_finI (Q := (Q3 Z a1 pa q xs h0 n0)) X8 hx hlk Bd.returns (hb hby d3_65) ?_ (by decide) (by decide)
        show Q3 Z a1 pa q xs h0 n0 _ T8.heap _
        rw [e8]
        refine ⟨?_, N8, K8, ?_⟩
        · rw [own_vr, if_neg hc1, if_neg hc4, if_pos hc7]
        · rw [own_vl, if_neg hc1, if_neg hc4, if_pos hc7]; exact V_a1
      · refine Gl.pre (fun _ k => XS.ifNo X6.here hx rfl (hb hby d3_26) rfl ((if0 _ _).trans (feq hc7).1) k) ?_
        show Gl p.tables e below PP (T6.setTop (mkF m 29 #[.val (.ref a1), .val (.int pa), .val (.int q), .val (.int ((pa + (1 : Int32)) + (1 : Int32))), .val (.int (own_ushr (own_ushr q (7 : Int32)) (7 : Int32)))] []))
        refine Gl.pre (fun _ k => XS.aloadN X6.here hx rfl (hb hby d3_29) rfl rfl k) ?_
        show Gl p.tables e below PP (T6.setTop (mkF m 30 #[.val (.ref a1), .val (.int pa), .val (.int q), .val (.int ((pa + (1 : Int32)) + (1 : Int32))), .val (.int (own_ushr (own_ushr q (7 : Int32)) (7 : Int32)))] [(.ref a1)]))
        refine Gl.pre (fun _ k => XS.iloadN X6.here hx rfl (hb hby d3_30) rfl k) ?_
        show Gl p.tables e below PP (T6.setTop (mkF m 31 #[.val (.ref a1), .val (.int pa), .val (.int q), .val (.int ((pa + (1 : Int32)) + (1 : Int32))), .val (.int (own_ushr (own_ushr q (7 : Int32)) (7 : Int32)))] [(.int ((pa + (1 : Int32)) + (1 : Int32))), (.ref a1)]))
        refine Gl.pre (fun _ k => XS.iinc X6.here hx rfl (hb hby d3_31) rfl (l' := #[.val (.ref a1), .val (.int pa), .val (.int q), .val (.int (((pa + (1 : Int32)) + (1 : Int32)) + (1 : Int32))), .val (.int (own_ushr (own_ushr q (7 : Int32)) (7 : Int32)))]) rfl k) ?_
        show Gl p.tables e below PP (T6.setTop (mkF m 34 #[.val (.ref a1), .val (.int pa), .val (.int q), .val (.int (((pa + (1 : Int32)) + (1 : Int32)) + (1 : Int32))), .val (.int (own_ushr (own_ushr q (7 : Int32)) (7 : Int32)))] [(.int ((pa + (1 : Int32)) + (1 : Int32))), (.ref a1)]))
        refine Gl.pre (fun _ k => XS.iload X6.here hx rfl (hb hby d3_34) rfl k) ?_
        show Gl p.tables e below PP (T6.setTop (mkF m 36 #[.val (.ref a1), .val (.int pa), .val (.int q), .val (.int (((pa + (1 : Int32)) + (1 : Int32)) + (1 : Int32))), .val (.int (own_ushr (own_ushr q (7 : Int32)) (7 : Int32)))] [(.int (own_ushr (own_ushr q (7 : Int32)) (7 : Int32))), (.int ((pa + (1 : Int32)) + (1 : Int32))), (.ref a1)]))
        refine Gl.pre (fun _ k => XS.bipush X6.here hx rfl (hb hby d3_36) k) ?_
        show Gl p.tables e below PP (T6.setTop (mkF m 38 #[.val (.ref a1), .val (.int pa), .val (.int q), .val (.int (((pa + (1 : Int32)) + (1 : Int32)) + (1 : Int32))), .val (.int (own_ushr (own_ushr q (7 : Int32)) (7 : Int32)))] [(.int (127 : Int32)), (.int (own_ushr (own_ushr q (7 : Int32)) (7 : Int32))), (.int ((pa + (1 : Int32)) + (1 : Int32))), (.ref a1)]))
        refine Gl.pre (fun _ k => XS.iand X6.here hx rfl (hb hby d3_38) rfl k) ?_
        show Gl p.tables e below PP (T6.setTop (mkF m 39 #[.val (.ref a1), .val (.int pa), .val (.int q), .val (.int (((pa + (1 : Int32)) + (1 : Int32)) + (1 : Int32))), .val (.int (own_ushr (own_ushr q (7 : Int32)) (7 : Int32)))] [(.int ((own_ushr (own_ushr q (7 : Int32)) (7 : Int32)) &&& (127 : Int32))), (.int ((pa + (1 : Int32)) + (1 : Int32))), (.ref a1)]))
        refine Gl.pre (fun _ k => XS.sipush X6.here hx rfl (hb hby d3_39) k) ?_
        show Gl p.tables e below PP (T6.setTop (mkF m 42 #[.val (.ref a1), .val (.int pa), .val (.int q), .val (.int (((pa + (1 : Int32)) + (1 : Int32)) + (1 : Int32))), .val (.int (own_ushr (own_ushr q (7 : Int32)) (7 : Int32)))] [(.int (128 : Int32)), (.int ((own_ushr (own_ushr q (7 : Int32)) (7 : Int32)) &&& (127 : Int32))), (.int ((pa + (1 : Int32)) + (1 : Int32))), (.ref a1)]))
        refine Gl.pre (fun _ k => XS.ior X6.here hx rfl (hb hby d3_42) rfl k) ?_
        show Gl p.tables e below PP (T6.setTop (mkF m 43 #[.val (.ref a1), .val (.int pa), .val (.int q), .val (.int (((pa + (1 : Int32)) + (1 : Int32)) + (1 : Int32))), .val (.int (own_ushr (own_ushr q (7 : Int32)) (7 : Int32)))] [(.int (((own_ushr (own_ushr q (7 : Int32)) (7 : Int32)) &&& (127 : Int32)) ||| (128 : Int32))), (.int ((pa + (1 : Int32)) + (1 : Int32))), (.ref a1)]))
        refine Gl.pre (fun _ k => XS.i2b X6.here hx rfl (hb hby d3_43) rfl k) ?_
        show Gl p.tables e below PP (T6.setTop (mkF m 44 #[.val (.ref a1), .val (.int pa), .val (.int q), .val (.int (((pa + (1 : Int32)) + (1 : Int32)) + (1 : Int32))), .val (.int (own_ushr (own_ushr q (7 : Int32)) (7 : Int32)))] [(.int ((((own_ushr (own_ushr q (7 : Int32)) (7 : Int32)) &&& (127 : Int32)) ||| (128 : Int32)).toInt8.toInt32)), (.int ((pa + (1 : Int32)) + (1 : Int32))), (.ref a1)]))
        obtain ⟨T9, h9, X9, e9, W9, V9, st9⟩ := own_stB X6 hx hZ e6 V_a1 (j := ((pa + (1 : Int32)) + (1 : Int32))) (i := (((pa + (1 : Int32)) + (1 : Int32))).toNatClampNeg) (by rcases hp with rfl | rfl | rfl | rfl <;> decide) rfl (by simp only [List.length_set, hlen]; rcases hp with rfl | rfl | rfl | rfl <;> decide) (g := (mkF m 44 #[.val (.ref a1), .val (.int pa), .val (.int q), .val (.int (((pa + (1 : Int32)) + (1 : Int32)) + (1 : Int32))), .val (.int (own_ushr (own_ushr q (7 : Int32)) (7 : Int32)))] [(.int ((((own_ushr (own_ushr q (7 : Int32)) (7 : Int32)) &&& (127 : Int32)) ||| (128 : Int32)).toInt8.toInt32)), (.int ((pa + (1 : Int32)) + (1 : Int32))), (.ref a1)])) rfl rfl (hb hby d3_44)
        refine Gl.pre (fun _ k => st9 _ k) ?_
        have Z9 : n0 ≤ h9.size := by rw [W9.size]; exact Z6
        have N9 := Fr.snoc X9 N6 g_a1
        have K9 := K6.wr W9 (Or.inl (List.mem_of_getElem? (i := 0) rfl))
        have V_a1 := V9
        show Gl p.tables e below PP (T9.setTop (mkF m 45 #[.val (.ref a1), .val (.int pa), .val (.int q), .val (.int (((pa + (1 : Int32)) + (1 : Int32)) + (1 : Int32))), .val (.int (own_ushr (own_ushr q (7 : Int32)) (7 : Int32)))] []))
        refine Gl.pre (fun _ k => XS.iload X9.here hx rfl (hb hby d3_45) rfl k) ?_
        show Gl p.tables e below PP (T9.setTop (mkF m 47 #[.val (.ref a1), .val (.int pa), .val (.int q), .val (.int (((pa + (1 : Int32)) + (1 : Int32)) + (1 : Int32))), .val (.int (own_ushr (own_ushr q (7 : Int32)) (7 : Int32)))] [(.int (own_ushr (own_ushr q (7 : Int32)) (7 : Int32)))]))
        refine Gl.pre (fun _ k => XS.bipush X9.here hx rfl (hb hby d3_47) k) ?_
        show Gl p.tables e below PP (T9.setTop (mkF m 49 #[.val (.ref a1), .val (.int pa), .val (.int q), .val (.int (((pa + (1 : Int32)) + (1 : Int32)) + (1 : Int32))), .val (.int (own_ushr (own_ushr q (7 : Int32)) (7 : Int32)))] [(.int (7 : Int32)), (.int (own_ushr (own_ushr q (7 : Int32)) (7 : Int32)))]))
        refine Gl.pre (fun _ k => XS.iushr X9.here hx rfl (hb hby d3_49) rfl k) ?_
        show Gl p.tables e below PP (T9.setTop (mkF m 50 #[.val (.ref a1), .val (.int pa), .val (.int q), .val (.int (((pa + (1 : Int32)) + (1 : Int32)) + (1 : Int32))), .val (.int (own_ushr (own_ushr q (7 : Int32)) (7 : Int32)))] [(.int (own_ushr (own_ushr (own_ushr q (7 : Int32)) (7 : Int32)) (7 : Int32)))]))
        refine Gl.pre (fun _ k => XS.istore X9.here hx rfl (hb hby d3_50) rfl (l' := #[.val (.ref a1), .val (.int pa), .val (.int q), .val (.int (((pa + (1 : Int32)) + (1 : Int32)) + (1 : Int32))), .val (.int (own_ushr (own_ushr (own_ushr q (7 : Int32)) (7 : Int32)) (7 : Int32)))]) rfl k) ?_
        show Gl p.tables e below PP (T9.setTop (mkF m 52 #[.val (.ref a1), .val (.int pa), .val (.int q), .val (.int (((pa + (1 : Int32)) + (1 : Int32)) + (1 : Int32))), .val (.int (own_ushr (own_ushr (own_ushr q (7 : Int32)) (7 : Int32)) (7 : Int32)))] []))
        refine Gl.pre (fun _ k => XS.goto X9.here hx rfl (pc0 := 52) (pc' := 21) rfl (hb hby d3_52) (by decide) (by decide) k) ?_
        show Gl p.tables e below PP (T9.setTop (mkF m 21 #[.val (.ref a1), .val (.int pa), .val (.int q), .val (.int (((pa + (1 : Int32)) + (1 : Int32)) + (1 : Int32))), .val (.int (own_ushr (own_ushr (own_ushr q (7 : Int32)) (7 : Int32)) (7 : Int32)))] []))
        refine Gl.pre (fun _ k => XS.iload X9.here hx rfl (hb hby d3_21) rfl k) ?_
        show Gl p.tables e below PP (T9.setTop (mkF m 23 #[.val (.ref a1), .val (.int pa), .val (.int q), .val (.int (((pa + (1 : Int32)) + (1 : Int32)) + (1 : Int32))), .val (.int (own_ushr (own_ushr (own_ushr q (7 : Int32)) (7 : Int32)) (7 : Int32)))] [(.int (own_ushr (own_ushr (own_ushr q (7 : Int32)) (7 : Int32)) (7 : Int32)))]))
        refine Gl.pre (fun _ k => XS.bipush X9.here hx rfl (hb hby d3_23) k) ?_
        show Gl p.tables e below PP (T9.setTop (mkF m 25 #[.val (.ref a1), .val (.int pa), .val (.int q), .val (.int (((pa + (1 : Int32)) + (1 : Int32)) + (1 : Int32))), .val (.int (own_ushr (own_ushr (own_ushr q (7 : Int32)) (7 : Int32)) (7 : Int32)))] [(.int (-128 : Int32)), (.int (own_ushr (own_ushr (own_ushr q (7 : Int32)) (7 : Int32)) (7 : Int32)))]))
        refine Gl.pre (fun _ k => XS.iand X9.here hx rfl (hb hby d3_25) rfl k) ?_
        show Gl p.tables e below PP (T9.setTop (mkF m 26 #[.val (.ref a1), .val (.int pa), .val (.int q), .val (.int (((pa + (1 : Int32)) + (1 : Int32)) + (1 : Int32))), .val (.int (own_ushr (own_ushr (own_ushr q (7 : Int32)) (7 : Int32)) (7 : Int32)))] [(.int ((own_ushr (own_ushr (own_ushr q (7 : Int32)) (7 : Int32)) (7 : Int32)) &&& (-128 : Int32)))]))
        by_cases hc10 : ((own_ushr (own_ushr (own_ushr q (7 : Int32)) (7 : Int32)) (7 : Int32)) &&& (-128 : Int32)) = (0 : Int32)
        · refine Gl.pre (fun _ k => XS.ifYes X9.here hx rfl (pc0 := 26) (pc' := 55) rfl (hb hby d3_26) rfl ((if0 _ _).trans (teq hc10).1) (by decide) (by decide) k) ?_
          show Gl p.tables e below PP (T9.setTop (mkF m 55 #[.val (.ref a1), .val (.int pa), .val (.int q), .val (.int (((pa + (1 : Int32)) + (1 : Int32)) + (1 : Int32))), .val (.int (own_ushr (own_ushr (own_ushr q (7 : Int32)) (7 : Int32)) (7 : Int32)))] []))
          refine Gl.pre (fun _ k => XS.aloadN X9.here hx rfl (hb hby d3_55) rfl rfl k) ?_
          show Gl p.tables e below PP (T9.setTop (mkF m 56 #[.val (.ref a1), .val (.int pa), .val (.int q), .val (.int (((pa + (1 : Int32)) + (1 : Int32)) + (1 : Int32))), .val (.int (own_ushr (own_ushr (own_ushr q (7 : Int32)) (7 : Int32)) (7 : Int32)))] [(.ref a1)]))
          refine Gl.pre (fun _ k => XS.iloadN X9.here hx rfl (hb hby d3_56) rfl k) ?_
          show Gl p.tables e below PP (T9.setTop (mkF m 57 #[.val (.ref a1), .val (.int pa), .val (.int q), .val (.int (((pa + (1 : Int32)) + (1 : Int32)) + (1 : Int32))), .val (.int (own_ushr (own_ushr (own_ushr q (7 : Int32)) (7 : Int32)) (7 : Int32)))] [(.int (((pa + (1 : Int32)) + (1 : Int32)) + (1 : Int32))), (.ref a1)]))
          refine Gl.pre (fun _ k => XS.iinc X9.here hx rfl (hb hby d3_57) rfl (l' := #[.val (.ref a1), .val (.int pa), .val (.int q), .val (.int ((((pa + (1 : Int32)) + (1 : Int32)) + (1 : Int32)) + (1 : Int32))), .val (.int (own_ushr (own_ushr (own_ushr q (7 : Int32)) (7 : Int32)) (7 : Int32)))]) rfl k) ?_
          show Gl p.tables e below PP (T9.setTop (mkF m 60 #[.val (.ref a1), .val (.int pa), .val (.int q), .val (.int ((((pa + (1 : Int32)) + (1 : Int32)) + (1 : Int32)) + (1 : Int32))), .val (.int (own_ushr (own_ushr (own_ushr q (7 : Int32)) (7 : Int32)) (7 : Int32)))] [(.int (((pa + (1 : Int32)) + (1 : Int32)) + (1 : Int32))), (.ref a1)]))
          refine Gl.pre (fun _ k => XS.iload X9.here hx rfl (hb hby d3_60) rfl k) ?_
          show Gl p.tables e below PP (T9.setTop (mkF m 62 #[.val (.ref a1), .val (.int pa), .val (.int q), .val (.int ((((pa + (1 : Int32)) + (1 : Int32)) + (1 : Int32)) + (1 : Int32))), .val (.int (own_ushr (own_ushr (own_ushr q (7 : Int32)) (7 : Int32)) (7 : Int32)))] [(.int (own_ushr (own_ushr (own_ushr q (7 : Int32)) (7 : Int32)) (7 : Int32))), (.int (((pa + (1 : Int32)) + (1 : Int32)) + (1 : Int32))), (.ref a1)]))
          refine Gl.pre (fun _ k => XS.i2b X9.here hx rfl (hb hby d3_62) rfl k) ?_
          show Gl p.tables e below PP (T9.setTop (mkF m 63 #[.val (.ref a1), .val (.int pa), .val (.int q), .val (.int ((((pa + (1 : Int32)) + (1 : Int32)) + (1 : Int32)) + (1 : Int32))), .val (.int (own_ushr (own_ushr (own_ushr q (7 : Int32)) (7 : Int32)) (7 : Int32)))] [(.int ((own_ushr (own_ushr (own_ushr q (7 : Int32)) (7 : Int32)) (7 : Int32)).toInt8.toInt32)), (.int (((pa + (1 : Int32)) + (1 : Int32)) + (1 : Int32))), (.ref a1)]))
          obtain ⟨T11, h11, X11, e11, W11, V11, st11⟩ := own_stB X9 hx hZ e9 V_a1 (j := (((pa + (1 : Int32)) + (1 : Int32)) + (1 : Int32))) (i := ((((pa + (1 : Int32)) + (1 : Int32)) + (1 : Int32))).toNatClampNeg) (by rcases hp with rfl | rfl | rfl | rfl <;> decide) rfl (by simp only [List.length_set, hlen]; rcases hp with rfl | rfl | rfl | rfl <;> decide) (g := (mkF m 63 #[.val (.ref a1), .val (.int pa), .val (.int q), .val (.int ((((pa + (1 : Int32)) + (1 : Int32)) + (1 : Int32)) + (1 : Int32))), .val (.int (own_ushr (own_ushr (own_ushr q (7 : Int32)) (7 : Int32)) (7 : Int32)))] [(.int ((own_ushr (own_ushr (own_ushr q (7 : Int32)) (7 : Int32)) (7 : Int32)).toInt8.toInt32)), (.int (((pa + (1 : Int32)) + (1 : Int32)) + (1 : Int32))), (.ref a1)])) rfl rfl (hb hby d3_63)
          refine Gl.pre (fun _ k => st11 _ k) ?_
          have Z11 : n0 ≤ h11.size := by rw [W11.size]; exact Z9
          have N11 := Fr.snoc X11 N9 g_a1
          have K11 := K9.wr W11 (Or.inl (List.mem_of_getElem? (i := 0) rfl))
          have V_a1 := V11
          show Gl p.tables e below PP (T11.setTop (mkF m 64 #[.val (.ref a1), .val (.int pa), .val (.int q), .val (.int ((((pa + (1 : Int32)) + (1 : Int32)) + (1 : Int32)) + (1 : Int32))), .val (.int (own_ushr (own_ushr (own_ushr q (7 : Int32)) (7 : Int32)) (7 : Int32)))] []))
          refine Gl.pre (fun _ k => XS.iloadN X11.here hx rfl (hb hby d3_64) rfl k) ?_
          show Gl p.tables e below PP (T11.setTop (mkF m 65 #[.val (.ref a1), .val (.int pa), .val (.int q), .val (.int ((((pa + (1 : Int32)) + (1 : Int32)) + (1 : Int32)) + (1 : Int32))), .val (.int (own_ushr (own_ushr (own_ushr q (7 : Int32)) (7 : Int32)) (7 : Int32)))] [(.int ((((pa + (1 : Int32)) + (1 : Int32)) + (1 : Int32)) + (1 : Int32)))]))
          rw [hPP]
          refine own_finI (Q := (Q3 Z a1 pa q xs h0 n0)) X11 hx hlk Bd.returns (hb hby d3_65) ?_ (by decide) (by decide)
          show Q3 Z a1 pa q xs h0 n0 _ T11.heap _
          rw [e11]
          refine ⟨?_, N11, K11, ?_⟩
          · rw [own_vr, if_neg hc1, if_neg hc4, if_neg hc7, if_pos hc10]
          · rw [own_vl, if_neg hc1, if_neg hc4, if_neg hc7, if_pos hc10]; exact V_a1
        · refine Gl.pre (fun _ k => XS.ifNo X9.here hx rfl (hb hby d3_26) rfl ((if0 _ _).trans (feq hc10).1) k) ?_
          show Gl p.tables e below PP (T9.setTop (mkF m 29 #[.val (.ref a1), .val (.int pa), .val (.int q), .val (.int (((pa + (1 : Int32)) + (1 : Int32)) + (1 : Int32))), .val (.int (own_ushr (own_ushr (own_ushr q (7 : Int32)) (7 : Int32)) (7 : Int32)))] []))
          refine Gl.pre (fun _ k => XS.aloadN X9.here hx rfl (hb hby d3_29) rfl rfl k) ?_
          show Gl p.tables e below PP (T9.setTop (mkF m 30 #[.val (.ref a1), .val (.int pa), .val (.int q), .val (.int (((pa + (1 : Int32)) + (1 : Int32)) + (1 : Int32))), .val (.int (own_ushr (own_ushr (own_ushr q (7 : Int32)) (7 : Int32)) (7 : Int32)))] [(.ref a1)]))
          refine Gl.pre (fun _ k => XS.iloadN X9.here hx rfl (hb hby d3_30) rfl k) ?_
          show Gl p.tables e below PP (T9.setTop (mkF m 31 #[.val (.ref a1), .val (.int pa), .val (.int q), .val (.int (((pa + (1 : Int32)) + (1 : Int32)) + (1 : Int32))), .val (.int (own_ushr (own_ushr (own_ushr q (7 : Int32)) (7 : Int32)) (7 : Int32)))] [(.int (((pa + (1 : Int32)) + (1 : Int32)) + (1 : Int32))), (.ref a1)]))
          refine Gl.pre (fun _ k => XS.iinc X9.here hx rfl (hb hby d3_31) rfl (l' := #[.val (.ref a1), .val (.int pa), .val (.int q), .val (.int ((((pa + (1 : Int32)) + (1 : Int32)) + (1 : Int32)) + (1 : Int32))), .val (.int (own_ushr (own_ushr (own_ushr q (7 : Int32)) (7 : Int32)) (7 : Int32)))]) rfl k) ?_
          show Gl p.tables e below PP (T9.setTop (mkF m 34 #[.val (.ref a1), .val (.int pa), .val (.int q), .val (.int ((((pa + (1 : Int32)) + (1 : Int32)) + (1 : Int32)) + (1 : Int32))), .val (.int (own_ushr (own_ushr (own_ushr q (7 : Int32)) (7 : Int32)) (7 : Int32)))] [(.int (((pa + (1 : Int32)) + (1 : Int32)) + (1 : Int32))), (.ref a1)]))
          refine Gl.pre (fun _ k => XS.iload X9.here hx rfl (hb hby d3_34) rfl k) ?_
          show Gl p.tables e below PP (T9.setTop (mkF m 36 #[.val (.ref a1), .val (.int pa), .val (.int q), .val (.int ((((pa + (1 : Int32)) + (1 : Int32)) + (1 : Int32)) + (1 : Int32))), .val (.int (own_ushr (own_ushr (own_ushr q (7 : Int32)) (7 : Int32)) (7 : Int32)))] [(.int (own_ushr (own_ushr (own_ushr q (7 : Int32)) (7 : Int32)) (7 : Int32))), (.int (((pa + (1 : Int32)) + (1 : Int32)) + (1 : Int32))), (.ref a1)]))
          refine Gl.pre (fun _ k => XS.bipush X9.here hx rfl (hb hby d3_36) k) ?_
          show Gl p.tables e below PP (T9.setTop (mkF m 38 #[.val (.ref a1), .val (.int pa), .val (.int q), .val (.int ((((pa + (1 : Int32)) + (1 : Int32)) + (1 : Int32)) + (1 : Int32))), .val (.int (own_ushr (own_ushr (own_ushr q (7 : Int32)) (7 : Int32)) (7 : Int32)))] [(.int (127 : Int32)), (.int (own_ushr (own_ushr (own_ushr q (7 : Int32)) (7 : Int32)) (7 : Int32))), (.int (((pa + (1 : Int32)) + (1 : Int32)) + (1 : Int32))), (.ref a1)]))
          refine Gl.pre (fun _ k => XS.iand X9.here hx rfl (hb hby d3_38) rfl k) ?_
          show Gl p.tables e below PP (T9.setTop (mkF m 39 #[.val (.ref a1), .val (.int pa), .val (.int q), .val (.int ((((pa + (1 : Int32)) + (1 : Int32)) + (1 : Int32)) + (1 : Int32))), .val (.int (own_ushr (own_ushr (own_ushr q (7 : Int32)) (7 : Int32)) (7 : Int32)))] [(.int ((own_ushr (own_ushr (own_ushr q (7 : Int32)) (7 : Int32)) (7 : Int32)) &&& (127 : Int32))), (.int (((pa + (1 : Int32)) + (1 : Int32)) + (1 : Int32))), (.ref a1)]))
          refine Gl.pre (fun _ k => XS.sipush X9.here hx rfl (hb hby d3_39) k) ?_
          show Gl p.tables e below PP (T9.setTop (mkF m 42 #[.val (.ref a1), .val (.int pa), .val (.int q), .val (.int ((((pa + (1 : Int32)) + (1 : Int32)) + (1 : Int32)) + (1 : Int32))), .val (.int (own_ushr (own_ushr (own_ushr q (7 : Int32)) (7 : Int32)) (7 : Int32)))] [(.int (128 : Int32)), (.int ((own_ushr (own_ushr (own_ushr q (7 : Int32)) (7 : Int32)) (7 : Int32)) &&& (127 : Int32))), (.int (((pa + (1 : Int32)) + (1 : Int32)) + (1 : Int32))), (.ref a1)]))
          refine Gl.pre (fun _ k => XS.ior X9.here hx rfl (hb hby d3_42) rfl k) ?_
          show Gl p.tables e below PP (T9.setTop (mkF m 43 #[.val (.ref a1), .val (.int pa), .val (.int q), .val (.int ((((pa + (1 : Int32)) + (1 : Int32)) + (1 : Int32)) + (1 : Int32))), .val (.int (own_ushr (own_ushr (own_ushr q (7 : Int32)) (7 : Int32)) (7 : Int32)))] [(.int (((own_ushr (own_ushr (own_ushr q (7 : Int32)) (7 : Int32)) (7 : Int32)) &&& (127 : Int32)) ||| (128 : Int32))), (.int (((pa + (1 : Int32)) + (1 : Int32)) + (1 : Int32))), (.ref a1)]))
          refine Gl.pre (fun _ k => XS.i2b X9.here hx rfl (hb hby d3_43) rfl k) ?_
          show Gl p.tables e below PP (T9.setTop (mkF m 44 #[.val (.ref a1), .val (.int pa), .val (.int q), .val (.int ((((pa + (1 : Int32)) + (1 : Int32)) + (1 : Int32)) + (1 : Int32))), .val (.int (own_ushr (own_ushr (own_ushr q (7 : Int32)) (7 : Int32)) (7 : Int32)))] [(.int ((((own_ushr (own_ushr (own_ushr q (7 : Int32)) (7 : Int32)) (7 : Int32)) &&& (127 : Int32)) ||| (128 : Int32)).toInt8.toInt32)), (.int (((pa + (1 : Int32)) + (1 : Int32)) + (1 : Int32))), (.ref a1)]))
          obtain ⟨T12, h12, X12, e12, W12, V12, st12⟩ := own_stB X9 hx hZ e9 V_a1 (j := (((pa + (1 : Int32)) + (1 : Int32)) + (1 : Int32))) (i := ((((pa + (1 : Int32)) + (1 : Int32)) + (1 : Int32))).toNatClampNeg) (by rcases hp with rfl | rfl | rfl | rfl <;> decide) rfl (by simp only [List.length_set, hlen]; rcases hp with rfl | rfl | rfl | rfl <;> decide) (g := (mkF m 44 #[.val (.ref a1), .val (.int pa), .val (.int q), .val (.int ((((pa + (1 : Int32)) + (1 : Int32)) + (1 : Int32)) + (1 : Int32))), .val (.int (own_ushr (own_ushr (own_ushr q (7 : Int32)) (7 : Int32)) (7 : Int32)))] [(.int ((((own_ushr (own_ushr (own_ushr q (7 : Int32)) (7 : Int32)) (7 : Int32)) &&& (127 : Int32)) ||| (128 : Int32)).toInt8.toInt32)), (.int (((pa + (1 : Int32)) + (1 : Int32)) + (1 : Int32))), (.ref a1)])) rfl rfl (hb hby d3_44)
          refine Gl.pre (fun _ k => st12 _ k) ?_
          have Z12 : n0 ≤ h12.size := by rw [W12.size]; exact Z9
          have N12 := Fr.snoc X12 N9 g_a1
          have K12 := K9.wr W12 (Or.inl (List.mem_of_getElem? (i := 0) rfl))
          have V_a1 := V12
          show Gl p.tables e below PP (T12.setTop (mkF m 45 #[.val (.ref a1), .val (.int pa), .val (.int q), .val (.int ((((pa + (1 : Int32)) + (1 : Int32)) + (1 : Int32)) + (1 : Int32))), .val (.int (own_ushr (own_ushr (own_ushr q (7 : Int32)) (7 : Int32)) (7 : Int32)))] []))
          refine Gl.pre (fun _ k => XS.iload X12.here hx rfl (hb hby d3_45) rfl k) ?_
          show Gl p.tables e below PP (T12.setTop (mkF m 47 #[.val (.ref a1), .val (.int pa), .val (.int q), .val (.int ((((pa + (1 : Int32)) + (1 : Int32)) + (1 : Int32)) + (1 : Int32))), .val (.int (own_ushr (own_ushr (own_ushr q (7 : Int32)) (7 : Int32)) (7 : Int32)))] [(.int (own_ushr (own_ushr (own_ushr q (7 : Int32)) (7 : Int32)) (7 : Int32)))]))
          refine Gl.pre (fun _ k => XS.bipush X12.here hx rfl (hb hby d3_47) k) ?_
          show Gl p.tables e below PP (T12.setTop (mkF m 49 #[.val (.ref a1), .val (.int pa), .val (.int q), .val (.int ((((pa + (1 : Int32)) + (1 : Int32)) + (1 : Int32)) + (1 : Int32))), .val (.int (own_ushr (own_ushr (own_ushr q (7 : Int32)) (7 : Int32)) (7 : Int32)))] [(.int (7 : Int32)), (.int (own_ushr (own_ushr (own_ushr q (7 : Int32)) (7 : Int32)) (7 : Int32)))]))
          refine Gl.pre (fun _ k => XS.iushr X12.here hx rfl (hb hby d3_49) rfl k) ?_
          show Gl p.tables e below PP (T12.setTop (mkF m 50 #[.val (.ref a1), .val (.int pa), .val (.int q), .val (.int ((((pa + (1 : Int32)) + (1 : Int32)) + (1 : Int32)) + (1 : Int32))), .val (.int (own_ushr (own_ushr (own_ushr q (7 : Int32)) (7 : Int32)) (7 : Int32)))] [(.int (own_ushr (own_ushr (own_ushr (own_ushr q (7 : Int32)) (7 : Int32)) (7 : Int32)) (7 : Int32)))]))
          refine Gl.pre (fun _ k => XS.istore X12.here hx rfl (hb hby d3_50) rfl (l' := #[.val (.ref a1), .val (.int pa), .val (.int q), .val (.int ((((pa + (1 : Int32)) + (1 : Int32)) + (1 : Int32)) + (1 : Int32))), .val (.int (own_ushr (own_ushr (own_ushr (own_ushr q (7 : Int32)) (7 : Int32)) (7 : Int32)) (7 : Int32)))]) rfl k) ?_
          show Gl p.tables e below PP (T12.setTop (mkF m 52 #[.val (.ref a1), .val (.int pa), .val (.int q), .val (.int ((((pa + (1 : Int32)) + (1 : Int32)) + (1 : Int32)) + (1 : Int32))), .val (.int (own_ushr (own_ushr (own_ushr (own_ushr q (7 : Int32)) (7 : Int32)) (7 : Int32)) (7 : Int32)))] []))
          refine Gl.pre (fun _ k => XS.goto X12.here hx rfl (pc0 := 52) (pc' := 21) rfl (hb hby d3_52) (by decide) (by decide) k) ?_
          show Gl p.tables e below PP (T12.setTop (mkF m 21 #[.val (.ref a1), .val (.int pa), .val (.int q), .val (.int ((((pa + (1 : Int32)) + (1 : Int32)) + (1 : Int32)) + (1 : Int32))), .val (.int (own_ushr (own_ushr (own_ushr (own_ushr q (7 : Int32)) (7 : Int32)) (7 : Int32)) (7 : Int32)))] []))
          refine Gl.pre (fun _ k => XS.iload X12.here hx rfl (hb hby d3_21) rfl k) ?_
          show Gl p.tables e below PP (T12.setTop (mkF m 23 #[.val (.ref a1), .val (.int pa), .val (.int q), .val (.int ((((pa + (1 : Int32)) + (1 : Int32)) + (1 : Int32)) + (1 : Int32))), .val (.int (own_ushr (own_ushr (own_ushr (own_ushr q (7 : Int32)) (7 : Int32)) (7 : Int32)) (7 : Int32)))] [(.int (own_ushr (own_ushr (own_ushr (own_ushr q (7 : Int32)) (7 : Int32)) (7 : Int32)) (7 : Int32)))]))
          refine Gl.pre (fun _ k => XS.bipush X12.here hx rfl (hb hby d3_23) k) ?_
          show Gl p.tables e below PP (T12.setTop (mkF m 25 #[.val (.ref a1), .val (.int pa), .val (.int q), .val (.int ((((pa + (1 : Int32)) + (1 : Int32)) + (1 : Int32)) + (1 : Int32))), .val (.int (own_ushr (own_ushr (own_ushr (own_ushr q (7 : Int32)) (7 : Int32)) (7 : Int32)) (7 : Int32)))] [(.int (-128 : Int32)), (.int (own_ushr (own_ushr (own_ushr (own_ushr q (7 : Int32)) (7 : Int32)) (7 : Int32)) (7 : Int32)))]))
          refine Gl.pre (fun _ k => XS.iand X12.here hx rfl (hb hby d3_25) rfl k) ?_
          show Gl p.tables e below PP (T12.setTop (mkF m 26 #[.val (.ref a1), .val (.int pa), .val (.int q), .val (.int ((((pa + (1 : Int32)) + (1 : Int32)) + (1 : Int32)) + (1 : Int32))), .val (.int (own_ushr (own_ushr (own_ushr (own_ushr q (7 : Int32)) (7 : Int32)) (7 : Int32)) (7 : Int32)))] [(.int ((own_ushr (own_ushr (own_ushr (own_ushr q (7 : Int32)) (7 : Int32)) (7 : Int32)) (7 : Int32)) &&& (-128 : Int32)))]))
          refine Gl.pre (fun _ k => XS.ifYes X12.here hx rfl (pc0 := 26) (pc' := 55) rfl (hb hby d3_26) rfl ((if0 _ _).trans (teq (show ((own_ushr (own_ushr (own_ushr (own_ushr q (7 : Int32)) (7 : Int32)) (7 : Int32)) (7 : Int32)) &&& (-128 : Int32)) = (0 : Int32) from own_sh4 q)).1) (by decide) (by decide) k) ?_
          show Gl p.tables e below PP (T12.setTop (mkF m 55 #[.val (.ref a1), .val (.int pa), .val (.int q), .val (.int ((((pa + (1 : Int32)) + (1 : Int32)) + (1 : Int32)) + (1 : Int32))), .val (.int (own_ushr (own_ushr (own_ushr (own_ushr q (7 : Int32)) (7 : Int32)) (7 : Int32)) (7 : Int32)))] []))
          refine Gl.pre (fun _ k => XS.aloadN X12.here hx rfl (hb hby d3_55) rfl rfl k) ?_
          show Gl p.tables e below PP (T12.setTop (mkF m 56 #[.val (.ref a1), .val (.int pa), .val (.int q), .val (.int ((((pa + (1 : Int32)) + (1 : Int32)) + (1 : Int32)) + (1 : Int32))), .val (.int (own_ushr (own_ushr (own_ushr (own_ushr q (7 : Int32)) (7 : Int32)) (7 : Int32)) (7 : Int32)))] [(.ref a1)]))
          refine Gl.pre (fun _ k => XS.iloadN X12.here hx rfl (hb hby d3_56) rfl k) ?_
          show Gl p.tables e below PP (T12.setTop (mkF m 57 #[.val (.ref a1), .val (.int pa), .val (.int q), .val (.int ((((pa + (1 : Int32)) + (1 : Int32)) + (1 : Int32)) + (1 : Int32))), .val (.int (own_ushr (own_ushr (own_ushr (own_ushr q (7 : Int32)) (7 : Int32)) (7 : Int32)) (7 : Int32)))] [(.int ((((pa + (1 : Int32)) + (1 : Int32)) + (1 : Int32)) + (1 : Int32))), (.ref a1)]))
          refine Gl.pre (fun _ k => XS.iinc X12.here hx rfl (hb hby d3_57) rfl (l' := #[.val (.ref a1), .val (.int pa), .val (.int q), .val (.int (((((pa + (1 : Int32)) + (1 : Int32)) + (1 : Int32)) + (1 : Int32)) + (1 : Int32))), .val (.int (own_ushr (own_ushr (own_ushr (own_ushr q (7 : Int32)) (7 : Int32)) (7 : Int32)) (7 : Int32)))]) rfl k) ?_
          show Gl p.tables e below PP (T12.setTop (mkF m 60 #[.val (.ref a1), .val (.int pa), .val (.int q), .val (.int (((((pa + (1 : Int32)) + (1 : Int32)) + (1 : Int32)) + (1 : Int32)) + (1 : Int32))), .val (.int (own_ushr (own_ushr (own_ushr (own_ushr q (7 : Int32)) (7 : Int32)) (7 : Int32)) (7 : Int32)))] [(.int ((((pa + (1 : Int32)) + (1 : Int32)) + (1 : Int32)) + (1 : Int32))), (.ref a1)]))
          refine Gl.pre (fun _ k => XS.iload X12.here hx rfl (hb hby d3_60) rfl k) ?_
          show Gl p.tables e below PP (T12.setTop (mkF m 62 #[.val (.ref a1), .val (.int pa), .val (.int q), .val (.int (((((pa + (1 : Int32)) + (1 : Int32)) + (1 : Int32)) + (1 : Int32)) + (1 : Int32))), .val (.int (own_ushr (own_ushr (own_ushr (own_ushr q (7 : Int32)) (7 : Int32)) (7 : Int32)) (7 : Int32)))] [(.int (own_ushr (own_ushr (own_ushr (own_ushr q (7 : Int32)) (7 : Int32)) (7 : Int32)) (7 : Int32))), (.int ((((pa + (1 : Int32)) + (1 : Int32)) + (1 : Int32)) + (1 : Int32))), (.ref a1)]))
          refine Gl.pre (fun _ k => XS.i2b X12.here hx rfl (hb hby d3_62) rfl k) ?_
          show Gl p.tables e below PP (T12.setTop (mkF m 63 #[.val (.ref a1), .val (.int pa), .val (.int q), .val (.int (((((pa + (1 : Int32)) + (1 : Int32)) + (1 : Int32)) + (1 : Int32)) + (1 : Int32))), .val (.int (own_ushr (own_ushr (own_ushr (own_ushr q (7 : Int32)) (7 : Int32)) (7 : Int32)) (7 : Int32)))] [(.int ((own_ushr (own_ushr (own_ushr (own_ushr q (7 : Int32)) (7 : Int32)) (7 : Int32)) (7 : Int32)).toInt8.toInt32)), (.int ((((pa + (1 : Int32)) + (1 : Int32)) + (1 : Int32)) + (1 : Int32))), (.ref a1)]))
          obtain ⟨T13, h13, X13, e13, W13, V13, st13⟩ := own_stB X12 hx hZ e12 V_a1 (j := ((((pa + (1 : Int32)) + (1 : Int32)) + (1 : Int32)) + (1 : Int32))) (i := (((((pa + (1 : Int32)) + (1 : Int32)) + (1 : Int32)) + (1 : Int32))).toNatClampNeg) (by rcases hp with rfl | rfl | rfl | rfl <;> decide) rfl (by simp only [List.length_set, hlen]; rcases hp with rfl | rfl | rfl | rfl <;> decide) (g := (mkF m 63 #[.val (.ref a1), .val (.int pa), .val (.int q), .val (.int (((((pa + (1 : Int32)) + (1 : Int32)) + (1 : Int32)) + (1 : Int32)) + (1 : Int32))), .val (.int (own_ushr (own_ushr (own_ushr (own_ushr q (7 : Int32)) (7 : Int32)) (7 : Int32)) (7 : Int32)))] [(.int ((own_ushr (own_ushr (own_ushr (own_ushr q (7 : Int32)) (7 : Int32)) (7 : Int32)) (7 : Int32)).toInt8.toInt32)), (.int ((((pa + (1 : Int32)) + (1 : Int32)) + (1 : Int32)) + (1 : Int32))), (.ref a1)])) rfl rfl (hb hby d3_63)
          refine Gl.pre (fun _ k => st13 _ k) ?_
          have Z13 : n0 ≤ h13.size := by rw [W13.size]; exact Z12
          have N13 := Fr.snoc X13 N12 g_a1
          have K13 := K12.wr W13 (Or.inl (List.mem_of_getElem? (i := 0) rfl))
          have V_a1 := V13
          show Gl p.tables e below PP (T13.setTop (mkF m 64 #[.val (.ref a1), .val (.int pa), .val (.int q), .val (.int (((((pa + (1 : Int32)) + (1 : Int32)) + (1 : Int32)) + (1 : Int32)) + (1 : Int32))), .val (.int (own_ushr (own_ushr (own_ushr (own_ushr q (7 : Int32)) (7 : Int32)) (7 : Int32)) (7 : Int32)))] []))
          refine Gl.pre (fun _ k => XS.iloadN X13.here hx rfl (hb hby d3_64) rfl k) ?_
          show Gl p.tables e below PP (T13.setTop (mkF m 65 #[.val (.ref a1), .val (.int pa), .val (.int q), .val (.int (((((pa + (1 : Int32)) + (1 : Int32)) + (1 : Int32)) + (1 : Int32)) + (1 : Int32))), .val (.int (own_ushr (own_ushr (own_ushr (own_ushr q (7 : Int32)) (7 : Int32)) (7 : Int32)) (7 : Int32)))] [(.int (((((pa + (1 : Int32)) + (1 : Int32)) + (1 : Int32)) + (1 : Int32)) + (1 : Int32)))]))
          rw [hPP]
          refine own_finI (Q := (Q3 Z a1 pa q xs h0 n0)) X13 hx hlk Bd.returns (hb hby d3_65) ?_ (by decide) (by decide)
          show Q3 Z a1 pa q xs h0 n0 _ T13.heap _
          rw [e13]
          refine ⟨?_, N13, K13, ?_⟩
          · rw [own_vr, if_neg hc1, if_neg hc4, if_neg hc7, if_neg hc10]
          · rw [own_vl, if_neg hc1, if_neg hc4, if_neg hc7, if_neg hc10]; exact V_a1
theorem d4_0 : decode method_5_code 0 = .ok (.aload_n 0, 1) := by decide +kernel
theorem d4_1 : decode method_5_code 1 = .ok (.iconst 0, 1) := by decide +kernel
theorem d4_2 : decode method_5_code 2 = .ok (.baload, 1) := by decide +kernel
theorem d4_3 : decode method_5_code 3 = .ok (.aload_n 1, 1) := by decide +kernel
theorem d4_4 : decode method_5_code 4 = .ok (.iconst 0, 1) := by decide +kernel
theorem d4_5 : decode method_5_code 5 = .ok (.baload, 1) := by decide +kernel
theorem d4_6 : decode method_5_code 6 = .ok (.if_icmp .ne 85, 3) := by decide +kernel
theorem d4_9 : decode method_5_code 9 = .ok (.aload_n 0, 1) := by decide +kernel
theorem d4_10 : decode method_5_code 10 = .ok (.iconst 1, 1) := by decide +kernel
theorem d4_11 : decode method_5_code 11 = .ok (.baload, 1) := by decide +kernel
theorem d4_12 : decode method_5_code 12 = .ok (.aload_n 1, 1) := by decide +kernel
theorem d4_13 : decode method_5_code 13 = .ok (.iconst 1, 1) := by decide +kernel
theorem d4_14 : decode method_5_code 14 = .ok (.baload, 1) := by decide +kernel
theorem d4_15 : decode method_5_code 15 = .ok (.if_icmp .ne 76, 3) := by decide +kernel
theorem d4_18 : decode method_5_code 18 = .ok (.aload_n 0, 1) := by decide +kernel
theorem d4_19 : decode method_5_code 19 = .ok (.iconst 2, 1) := by decide +kernel
theorem d4_20 : decode method_5_code 20 = .ok (.baload, 1) := by decide +kernel
theorem d4_21 : decode method_5_code 21 = .ok (.aload_n 1, 1) := by decide +kernel
theorem d4_22 : decode method_5_code 22 = .ok (.iconst 2, 1) := by decide +kernel
theorem d4_23 : decode method_5_code 23 = .ok (.baload, 1) := by decide +kernel
theorem d4_24 : decode method_5_code 24 = .ok (.if_icmp .ne 67, 3) := by decide +kernel
theorem d4_27 : decode method_5_code 27 = .ok (.aload_n 0, 1) := by decide +kernel
theorem d4_28 : decode method_5_code 28 = .ok (.iconst 3, 1) := by decide +kernel
theorem d4_29 : decode method_5_code 29 = .ok (.baload, 1) := by decide +kernel
theorem d4_30 : decode method_5_code 30 = .ok (.aload_n 1, 1) := by decide +kernel
theorem d4_31 : decode method_5_code 31 = .ok (.iconst 3, 1) := by decide +kernel
theorem d4_32 : decode method_5_code 32 = .ok (.baload, 1) := by decide +kernel
theorem d4_33 : decode method_5_code 33 = .ok (.if_icmp .ne 58, 3) := by decide +kernel
theorem d4_36 : decode method_5_code 36 = .ok (.aload_n 0, 1) := by decide +kernel
theorem d4_37 : decode method_5_code 37 = .ok (.iconst 4, 1) := by decide +kernel
theorem d4_38 : decode method_5_code 38 = .ok (.baload, 1) := by decide +kernel
theorem d4_39 : decode method_5_code 39 = .ok (.aload_n 1, 1) := by decide +kernel
theorem d4_40 : decode method_5_code 40 = .ok (.iconst 4, 1) := by decide +kernel
theorem d4_41 : decode method_5_code 41 = .ok (.baload, 1) := by decide +kernel
theorem d4_42 : decode method_5_code 42 = .ok (.if_icmp .ne 49, 3) := by decide +kernel
theorem d4_45 : decode method_5_code 45 = .ok (.aload_n 0, 1) := by decide +kernel
theorem d4_46 : decode method_5_code 46 = .ok (.iconst 5, 1) := by decide +kernel
theorem d4_47 : decode method_5_code 47 = .ok (.baload, 1) := by decide +kernel
theorem d4_48 : decode method_5_code 48 = .ok (.aload_n 1, 1) := by decide +kernel
theorem d4_49 : decode method_5_code 49 = .ok (.iconst 5, 1) := by decide +kernel
theorem d4_50 : decode method_5_code 50 = .ok (.baload, 1) := by decide +kernel
theorem d4_51 : decode method_5_code 51 = .ok (.if_icmp .ne 40, 3) := by decide +kernel
theorem d4_54 : decode method_5_code 54 = .ok (.aload_n 0, 1) := by decide +kernel
theorem d4_55 : decode method_5_code 55 = .ok (.bipush 6, 2) := by decide +kernel
theorem d4_57 : decode method_5_code 57 = .ok (.baload, 1) := by decide +kernel
theorem d4_58 : decode method_5_code 58 = .ok (.aload_n 1, 1) := by decide +kernel
theorem d4_59 : decode method_5_code 59 = .ok (.bipush 6, 2) := by decide +kernel
theorem d4_61 : decode method_5_code 61 = .ok (.baload, 1) := by decide +kernel
theorem d4_62 : decode method_5_code 62 = .ok (.if_icmp .ne 29, 3) := by decide +kernel
theorem d4_65 : decode method_5_code 65 = .ok (.aload_n 0, 1) := by decide +kernel
theorem d4_66 : decode method_5_code 66 = .ok (.bipush 7, 2) := by decide +kernel
theorem d4_68 : decode method_5_code 68 = .ok (.baload, 1) := by decide +kernel
theorem d4_69 : decode method_5_code 69 = .ok (.aload_n 1, 1) := by decide +kernel
theorem d4_70 : decode method_5_code 70 = .ok (.bipush 7, 2) := by decide +kernel
theorem d4_72 : decode method_5_code 72 = .ok (.baload, 1) := by decide +kernel
theorem d4_73 : decode method_5_code 73 = .ok (.if_icmp .ne 18, 3) := by decide +kernel
theorem d4_76 : decode method_5_code 76 = .ok (.aload_n 0, 1) := by decide +kernel
theorem d4_77 : decode method_5_code 77 = .ok (.bipush 8, 2) := by decide +kernel
theorem d4_79 : decode method_5_code 79 = .ok (.baload, 1) := by decide +kernel
theorem d4_80 : decode method_5_code 80 = .ok (.aload_n 1, 1) := by decide +kernel
theorem d4_81 : decode method_5_code 81 = .ok (.bipush 8, 2) := by decide +kernel
theorem d4_83 : decode method_5_code 83 = .ok (.baload, 1) := by decide +kernel
theorem d4_84 : decode method_5_code 84 = .ok (.if_icmp .ne 7, 3) := by decide +kernel
theorem d4_87 : decode method_5_code 87 = .ok (.iconst 1, 1) := by decide +kernel
theorem d4_88 : decode method_5_code 88 = .ok (.goto 4, 3) := by decide +kernel
theorem d4_91 : decode method_5_code 91 = .ok (.iconst 0, 1) := by decide +kernel
theorem d4_92 : decode method_5_code 92 = .ok (.ireturn, 1) := by decide +kernel
theorem pn_4 : plainName "io/heapwire/FrameOutputPutVarintPinLaw" = true := by first | (simp [plainName, overriddenIn]; done) | decide +kernel
theorem ef_4 (m : MethodId) (a1 : Addr) (a2 : Addr) (xs : List Int32) (ys : List Int32) : entryFrame m #[(.ref a1), (.ref a2)] 2 = mkF m 0 #[.val (.ref a1), .val (.ref a2)] [] := by first | (simp [entryFrame, mkF, argsToLocals, Value.category]; done) | rfl
def Q4 (Z : State) (a1 : Addr) (a2 : Addr) (xs : List Int32) (ys : List Int32) (h0 : Heap) (n0 : Nat) (v : Option Value) (h : Heap) (L : List Loc) : Prop := v = some (.int (own_pi (xs.getD 0 0 = ys.getD 0 0 ∧ xs.getD 1 0 = ys.getD 1 0 ∧ xs.getD 2 0 = ys.getD 2 0 ∧ xs.getD 3 0 = ys.getD 3 0 ∧ xs.getD 4 0 = ys.getD 4 0 ∧ xs.getD 5 0 = ys.getD 5 0 ∧ xs.getD 6 0 = ys.getD 6 0 ∧ xs.getD 7 0 = ys.getD 7 0 ∧ xs.getD 8 0 = ys.getD 8 0))) ∧ Fr n0 L ∧ h = h0
set_option maxRecDepth 65536 in
set_option maxHeartbeats 40000000 in
theorem rm4 (l : Launch) (Z : State) (a0 : Array Value) (hw : ∀ d ∈ tables_1, d.before a0 Z = true) (ws : List Jvm.Cond) (a1 : Addr) (a2 : Addr) (xs : List Int32) (ys : List Int32) (h0 : Heap) (n0 : Nat) (Z0 : n0 ≤ h0.size) (V_a1 : Bal Z h0 a1 .byte xs) (V_a2 : Bal Z h0 a2 .byte ys) (hl1 : xs.length = 9) (hl2 : ys.length = 9) :
    MetFree l (⟨"io/heapwire/FrameOutputPutVarintPinLaw", "same9", "([B[B)Z"⟩ : MethodName) (head1 (Jvm.Cond.code (⟨"io/heapwire/FrameOutputPutVarintPinLaw", "same9", "([B[B)Z"⟩ : MethodName) method_5_code 2 (some .boolean) :: ws) ({ frames := 0, cells := 0, slots := 0, locals := 0 } : Room)) (fun a U => a = #[(.ref a1), (.ref a2)] ∧ Z.Warmed39 U.vm ∧ U.heap = h0) (fun _ _ _ _ _ => True) (fun _ U o U' => ∃ v L, o = .returned v ∧ Q4 Z a1 a2 xs ys h0 n0 v U'.heap L ∧ FrameEnd U o U' L ({ frames := 0, cells := 0, slots := 0, locals := 0 } : Room).cells ({ frames := 0, cells := 0, slots := 0, locals := 0 } : Room).slots) := by
  refine MetFree.of_bodySF (plainFor_of_name pn_4) hisR ?_
  intro p e s m args below meth c s₁ Bd hml0 hP hK
  obtain ⟨rfl, hZ, hh⟩ := hP
  have hx := Bd.exec
  have hby := Bd.bytes
  have hlk : meth.locks = false := BodyLoose.notSynchronized Bd
  have hml : c.maxLocals = 2 := hml0
  have hown : s.vm.findClass "io/heapwire/FrameOutputPutVarintPinLaw" = some m.cls := findClass_of_methodNamed Bd.named
  have hnm := (name_of_methodNamed Bd.named Bd.method).1
  have X0 : Stand p l e ({ frames := 0, cells := 0, slots := 0, locals := 0 } : Room) s m #[(.ref a1), (.ref a2)] below meth c s₁ [] 0 0 := Stand.of_body Bd
  have e0 : s₁.heap = h0 := by rw [← hh, Bd.state]; rfl
  have N0 := Fr.nil n0
  show Gl p.tables e below (fun (o : Outcome) (U' : State) => ∃ v L, o = .returned v ∧ Q4 Z a1 a2 xs ys h0 n0 v U'.heap L ∧ FrameEnd s o U' L ({ frames := 0, cells := 0, slots := 0, locals := 0 } : Room).cells ({ frames := 0, cells := 0, slots := 0, locals := 0 } : Room).slots) _
  refine Gl.pre (fun t k => castTop (ef_4 m a1 a2 xs ys) k) ?_
  obtain ⟨PP, hPP⟩ : ∃ P : Outcome → State → Prop, P = (fun (o : Outcome) (U' : State) => ∃ v L, o = .returned v ∧ Q4 Z a1 a2 xs ys h0 n0 v U'.heap L ∧ FrameEnd s o U' L ({ frames := 0, cells := 0, slots := 0, locals := 0 } : Room).cells ({ frames := 0, cells := 0, slots := 0, locals := 0 } : Room).slots) := ⟨_, rfl⟩
  rw [← hPP]
  show Gl p.tables e below PP (s₁.setTop (mkF m 0 #[.val (.ref a1), .val (.ref a2)] []))
  refine Gl.pre (fun _ k => XS.aloadN X0.here hx rfl (hb hby d4_0) rfl rfl k) ?_
  show Gl p.tables e below PP (s₁.setTop (mkF m 1 #[.val (.ref a1), .val (.ref a2)] [(.ref a1)]))
  refine Gl.pre (fun _ k => XS.iconst X0.here hx rfl (hb hby d4_1) k) ?_
  show Gl p.tables e below PP (s₁.setTop (mkF m 2 #[.val (.ref a1), .val (.ref a2)] [(.int (0 : Int32)), (.ref a1)]))
  refine Gl.pre (fun _ k => own_ldB X0 hx hZ e0 V_a1 (j := (0 : Int32)) (i := 0) (by decide) (by decide) (by rw [hl1]; decide) (v := (xs.getD 0 0)) rfl (g := (mkF m 2 #[.val (.ref a1), .val (.ref a2)] [(.int (0 : Int32)), (.ref a1)])) rfl rfl (hb hby d4_2) _ k) ?_
  show Gl p.tables e below PP (s₁.setTop (mkF m 3 #[.val (.ref a1), .val (.ref a2)] [(.int (xs.getD 0 0))]))
  refine Gl.pre (fun _ k => XS.aloadN X0.here hx rfl (hb hby d4_3) rfl rfl k) ?_
  show Gl p.tables e below PP (s₁.setTop (mkF m 4 #[.val (.ref a1), .val (.ref a2)] [(.ref a2), (.int (xs.getD 0 0))]))
  refine Gl.pre (fun _ k => XS.iconst X0.here hx rfl (hb hby d4_4) k) ?_
  show Gl p.tables e below PP (s₁.setTop (mkF m 5 #[.val (.ref a1), .val (.ref a2)] [(.int (0 : Int32)), (.ref a2), (.int (xs.getD 0 0))]))
  refine Gl.pre (fun _ k => own_ldB X0 hx hZ e0 V_a2 (j := (0 : Int32)) (i := 0) (by decide) (by decide) (by rw [hl2]; decide) (v := (ys.getD 0 0)) rfl (g := (mkF m 5 #[.val (.ref a1), .val (.ref a2)] [(.int (0 : Int32)), (.ref a2), (.int (xs.getD 0 0))])) rfl rfl (hb hby d4_5) _ k) ?_
  show Gl p.tables e below PP (s₁.setTop (mkF m 6 #[.val (.ref a1), .val (.ref a2)] [(.int (ys.getD 0 0)), (.int (xs.getD 0 0))]))
  by_cases hc1 : (xs.getD 0 0) = (ys.getD 0 0)
  · refine Gl.pre (fun _ k => XS.icmpNo X0.here hx rfl (hb hby d4_6) rfl (teq hc1).2 k) ?_
    show Gl p.tables e below PP (s₁.setTop (mkF m 9 #[.val (.ref a1), .val (.ref a2)] []))
    refine Gl.pre (fun _ k => XS.aloadN X0.here hx rfl (hb hby d4_9) rfl rfl k) ?_
    show Gl p.tables e below PP (s₁.setTop (mkF m 10 #[.val (.ref a1), .val (.ref a2)] [(.ref a1)]))
    refine Gl.pre (fun _ k => XS.iconst X0.here hx rfl (hb hby d4_10) k) ?_
    show Gl p.tables e below PP (s₁.setTop (mkF m 11 #[.val (.ref a1), .val (.ref a2)] [(.int (1 : Int32)), (.ref a1)]))
    refine Gl.pre (fun _ k => own_ldB X0 hx hZ e0 V_a1 (j := (1 : Int32)) (i := 1) (by decide) (by decide) (by rw [hl1]; decide) (v := (xs.getD 1 0)) rfl (g := (mkF m 11 #[.val (.ref a1), .val (.ref a2)] [(.int (1 : Int32)), (.ref a1)])) rfl rfl (hb hby d4_11) _ k) ?_
    show Gl p.tables e below PP (s₁.setTop (mkF m 12 #[.val (.ref a1), .val (.ref a2)] [(.int (xs.getD 1 0))]))
    refine Gl.pre (fun _ k => XS.aloadN X0.here hx rfl (hb hby d4_12) rfl rfl k) ?_
    show Gl p.tables e below PP (s₁.setTop (mkF m 13 #[.val (.ref a1), .val (.ref a2)] [(.ref a2), (.int (xs.getD 1 0))]))
    refine Gl.pre (fun _ k => XS.iconst X0.here hx rfl (hb hby d4_13) k) ?_
    show Gl p.tables e below PP (s₁.setTop (mkF m 14 #[.val (.ref a1), .val (.ref a2)] [(.int (1 : Int32)), (.ref a2), (.int (xs.getD 1 0))]))
    refine Gl.pre (fun _ k => own_ldB X0 hx hZ e0 V_a2 (j := (1 : Int32)) (i := 1) (by decide) (by decide) (by rw [hl2]; decide) (v := (ys.getD 1 0)) rfl (g := (mkF m 14 #[.val (.ref a1), .val (.ref a2)] [(.int (1 : Int32)), (.ref a2), (.int (xs.getD 1 0))])) rfl rfl (hb hby d4_14) _ k) ?_
    show Gl p.tables e below PP (s₁.setTop (mkF m 15 #[.val (.ref a1), .val (.ref a2)] [(.int (ys.getD 1 0)), (.int (xs.getD 1 0))]))
    by_cases hc2 : (xs.getD 1 0) = (ys.getD 1 0)
    · refine Gl.pre (fun _ k => XS.icmpNo X0.here hx rfl (hb hby d4_15) rfl (teq hc2).2 k) ?_
      show Gl p.tables e below PP (s₁.setTop (mkF m 18 #[.val (.ref a1), .val (.ref a2)] []))
      refine Gl.pre (fun _ k => XS.aloadN X0.here hx rfl (hb hby d4_18) rfl rfl k) ?_
      show Gl p.tables e below PP (s₁.setTop (mkF m 19 #[.val (.ref a1), .val (.ref a2)] [(.ref a1)]))
      refine Gl.pre (fun _ k => XS.iconst X0.here hx rfl (hb hby d4_19) k) ?_
      show Gl p.tables e below PP (s₁.setTop (mkF m 20 #[.val (.ref a1), .val (.ref a2)] [(.int (2 : Int32)), (.ref a1)]))
      refine Gl.pre (fun _ k => own_ldB X0 hx hZ e0 V_a1 (j := (2 : Int32)) (i := 2) (by decide) (by decide) (by rw [hl1]; decide) (v := (xs.getD 2 0)) rfl (g := (mkF m 20 #[.val (.ref a1), .val (.ref a2)] [(.int (2 : Int32)), (.ref a1)])) rfl rfl (hb hby d4_20) _ k) ?_
      show Gl p.tables e below PP (s₁.setTop (mkF m 21 #[.val (.ref a1), .val (.ref a2)] [(.int (xs.getD 2 0))]))
      refine Gl.pre (fun _ k => XS.aloadN X0.here hx rfl (hb hby d4_21) rfl rfl k) ?_
      show Gl p.tables e below PP (s₁.setTop (mkF m 22 #[.val (.ref a1), .val (.ref a2)] [(.ref a2), (.int (xs.getD 2 0))]))
      refine Gl.pre (fun _ k => XS.iconst X0.here hx rfl (hb hby d4_22) k) ?_
      show Gl p.tables e below PP (s₁.setTop (mkF m 23 #[.val (.ref a1), .val (.ref a2)] [(.int (2 : Int32)), (.ref a2), (.int (xs.getD 2 0))]))
      refine Gl.pre (fun _ k => own_ldB X0 hx hZ e0 V_a2 (j := (2 : Int32)) (i := 2) (by decide) (by decide) (by rw [hl2]; decide) (v := (ys.getD 2 0)) rfl (g := (mkF m 23 #[.val (.ref a1), .val (.ref a2)] [(.int (2 : Int32)), (.ref a2), (.int (xs.getD 2 0))])) rfl rfl (hb hby d4_23) _ k) ?_
      show Gl p.tables e below PP (s₁.setTop (mkF m 24 #[.val (.ref a1), .val (.ref a2)] [(.int (ys.getD 2 0)), (.int (xs.getD 2 0))]))
      by_cases hc3 : (xs.getD 2 0) = (ys.getD 2 0)
      · refine Gl.pre (fun _ k => XS.icmpNo X0.here hx rfl (hb hby d4_24) rfl (teq hc3).2 k) ?_
        show Gl p.tables e below PP (s₁.setTop (mkF m 27 #[.val (.ref a1), .val (.ref a2)] []))
        refine Gl.pre (fun _ k => XS.aloadN X0.here hx rfl (hb hby d4_27) rfl rfl k) ?_
        show Gl p.tables e below PP (s₁.setTop (mkF m 28 #[.val (.ref a1), .val (.ref a2)] [(.ref a1)]))
        refine Gl.pre (fun _ k => XS.iconst X0.here hx rfl (hb hby d4_28) k) ?_
        show Gl p.tables e below PP (s₁.setTop (mkF m 29 #[.val (.ref a1), .val (.ref a2)] [(.int (3 : Int32)), (.ref a1)]))
        refine Gl.pre (fun _ k => own_ldB X0 hx hZ e0 V_a1 (j := (3 : Int32)) (i := 3) (by decide) (by decide) (by rw [hl1]; decide) (v := (xs.getD 3 0)) rfl (g := (mkF m 29 #[.val (.ref a1), .val (.ref a2)] [(.int (3 : Int32)), (.ref a1)])) rfl rfl (hb hby d4_29) _ k) ?_
        show Gl p.tables e below PP (s₁.setTop (mkF m 30 #[.val (.ref a1), .val (.ref a2)] [(.int (xs.getD 3 0))]))
        refine Gl.pre (fun _ k => XS.aloadN X0.here hx rfl (hb hby d4_30) rfl rfl k) ?_
        show Gl p.tables e below PP (s₁.setTop (mkF m 31 #[.val (.ref a1), .val (.ref a2)] [(.ref a2), (.int (xs.getD 3 0))]))
        refine Gl.pre (fun _ k => XS.iconst X0.here hx rfl (hb hby d4_31) k) ?_
        show Gl p.tables e below PP (s₁.setTop (mkF m 32 #[.val (.ref a1), .val (.ref a2)] [(.int (3 : Int32)), (.ref a2), (.int (xs.getD 3 0))]))
        refine Gl.pre (fun _ k => own_ldB X0 hx hZ e0 V_a2 (j := (3 : Int32)) (i := 3) (by decide) (by decide) (by rw [hl2]; decide) (v := (ys.getD 3 0)) rfl (g := (mkF m 32 #[.val (.ref a1), .val (.ref a2)] [(.int (3 : Int32)), (.ref a2), (.int (xs.getD 3 0))])) rfl rfl (hb hby d4_32) _ k) ?_
        show Gl p.tables e below PP (s₁.setTop (mkF m 33 #[.val (.ref a1), .val (.ref a2)] [(.int (ys.getD 3 0)), (.int (xs.getD 3 0))]))
        by_cases hc4 : (xs.getD 3 0) = (ys.getD 3 0)
        · refine Gl.pre (fun _ k => XS.icmpNo X0.here hx rfl (hb hby d4_33) rfl (teq hc4).2 k) ?_
          show Gl p.tables e below PP (s₁.setTop (mkF m 36 #[.val (.ref a1), .val (.ref a2)] []))
          refine Gl.pre (fun _ k => XS.aloadN X0.here hx rfl (hb hby d4_36) rfl rfl k) ?_
          show Gl p.tables e below PP (s₁.setTop (mkF m 37 #[.val (.ref a1), .val (.ref a2)] [(.ref a1)]))
          refine Gl.pre (fun _ k => XS.iconst X0.here hx rfl (hb hby d4_37) k) ?_
          show Gl p.tables e below PP (s₁.setTop (mkF m 38 #[.val (.ref a1), .val (.ref a2)] [(.int (4 : Int32)), (.ref a1)]))
          refine Gl.pre (fun _ k => own_ldB X0 hx hZ e0 V_a1 (j := (4 : Int32)) (i := 4) (by decide) (by decide) (by rw [hl1]; decide) (v := (xs.getD 4 0)) rfl (g := (mkF m 38 #[.val (.ref a1), .val (.ref a2)] [(.int (4 : Int32)), (.ref a1)])) rfl rfl (hb hby d4_38) _ k) ?_
          show Gl p.tables e below PP (s₁.setTop (mkF m 39 #[.val (.ref a1), .val (.ref a2)] [(.int (xs.getD 4 0))]))
          refine Gl.pre (fun _ k => XS.aloadN X0.here hx rfl (hb hby d4_39) rfl rfl k) ?_
          show Gl p.tables e below PP (s₁.setTop (mkF m 40 #[.val (.ref a1), .val (.ref a2)] [(.ref a2), (.int (xs.getD 4 0))]))
          refine Gl.pre (fun _ k => XS.iconst X0.here hx rfl (hb hby d4_40) k) ?_
          show Gl p.tables e below PP (s₁.setTop (mkF m 41 #[.val (.ref a1), .val (.ref a2)] [(.int (4 : Int32)), (.ref a2), (.int (xs.getD 4 0))]))
          refine Gl.pre (fun _ k => own_ldB X0 hx hZ e0 V_a2 (j := (4 : Int32)) (i := 4) (by decide) (by decide) (by rw [hl2]; decide) (v := (ys.getD 4 0)) rfl (g := (mkF m 41 #[.val (.ref a1), .val (.ref a2)] [(.int (4 : Int32)), (.ref a2), (.int (xs.getD 4 0))])) rfl rfl (hb hby d4_41) _ k) ?_
          show Gl p.tables e below PP (s₁.setTop (mkF m 42 #[.val (.ref a1), .val (.ref a2)] [(.int (ys.getD 4 0)), (.int (xs.getD 4 0))]))
          by_cases hc5 : (xs.getD 4 0) = (ys.getD 4 0)
          · refine Gl.pre (fun _ k => XS.icmpNo X0.here hx rfl (hb hby d4_42) rfl (teq hc5).2 k) ?_
            show Gl p.tables e below PP (s₁.setTop (mkF m 45 #[.val (.ref a1), .val (.ref a2)] []))
            refine Gl.pre (fun _ k => XS.aloadN X0.here hx rfl (hb hby d4_45) rfl rfl k) ?_
            show Gl p.tables e below PP (s₁.setTop (mkF m 46 #[.val (.ref a1), .val (.ref a2)] [(.ref a1)]))
            refine Gl.pre (fun _ k => XS.iconst X0.here hx rfl (hb hby d4_46) k) ?_
            show Gl p.tables e below PP (s₁.setTop (mkF m 47 #[.val (.ref a1), .val (.ref a2)] [(.int (5 : Int32)), (.ref a1)]))
            refine Gl.pre (fun _ k => own_ldB X0 hx hZ e0 V_a1 (j := (5 : Int32)) (i := 5) (by decide) (by decide) (by rw [hl1]; decide) (v := (xs.getD 5 0)) rfl (g := (mkF m 47 #[.val (.ref a1), .val (.ref a2)] [(.int (5 : Int32)), (.ref a1)])) rfl rfl (hb hby d4_47) _ k) ?_
            show Gl p.tables e below PP (s₁.setTop (mkF m 48 #[.val (.ref a1), .val (.ref a2)] [(.int (xs.getD 5 0))]))
            refine Gl.pre (fun _ k => XS.aloadN X0.here hx rfl (hb hby d4_48) rfl rfl k) ?_
            show Gl p.tables e below PP (s₁.setTop (mkF m 49 #[.val (.ref a1), .val (.ref a2)] [(.ref a2), (.int (xs.getD 5 0))]))
            refine Gl.pre (fun _ k => XS.iconst X0.here hx rfl (hb hby d4_49) k) ?_
            show Gl p.tables e below PP (s₁.setTop (mkF m 50 #[.val (.ref a1), .val (.ref a2)] [(.int (5 : Int32)), (.ref a2), (.int (xs.getD 5 0))]))
            refine Gl.pre (fun _ k => own_ldB X0 hx hZ e0 V_a2 (j := (5 : Int32)) (i := 5) (by decide) (by decide) (by rw [hl2]; decide) (v := (ys.getD 5 0)) rfl (g := (mkF m 50 #[.val (.ref a1), .val (.ref a2)] [(.int (5 : Int32)), (.ref a2), (.int (xs.getD 5 0))])) rfl rfl (hb hby d4_50) _ k) ?_
            show Gl p.tables e below PP (s₁.setTop (mkF m 51 #[.val (.ref a1), .val (.ref a2)] [(.int (ys.getD 5 0)), (.int (xs.getD 5 0))]))
            by_cases hc6 : (xs.getD 5 0) = (ys.getD 5 0)
            · refine Gl.pre (fun _ k => XS.icmpNo X0.here hx rfl (hb hby d4_51) rfl (teq hc6).2 k) ?_
              show Gl p.tables e below PP (s₁.setTop (mkF m 54 #[.val (.ref a1), .val (.ref a2)] []))
              refine Gl.pre (fun _ k => XS.aloadN X0.here hx rfl (hb hby d4_54) rfl rfl k) ?_
              show Gl p.tables e below PP (s₁.setTop (mkF m 55 #[.val (.ref a1), .val (.ref a2)] [(.ref a1)]))
              refine Gl.pre (fun _ k => XS.bipush X0.here hx rfl (hb hby d4_55) k) ?_
              show Gl p.tables e below PP (s₁.setTop (mkF m 57 #[.val (.ref a1), .val (.ref a2)] [(.int (6 : Int32)), (.ref a1)]))
              refine Gl.pre (fun _ k => own_ldB X0 hx hZ e0 V_a1 (j := (6 : Int32)) (i := 6) (by decide) (by decide) (by rw [hl1]; decide) (v := (xs.getD 6 0)) rfl (g := (mkF m 57 #[.val (.ref a1), .val (.ref a2)] [(.int (6 : Int32)), (.ref a1)])) rfl rfl (hb hby d4_57) _ k) ?_
              show Gl p.tables e below PP (s₁.setTop (mkF m 58 #[.val (.ref a1), .val (.ref a2)] [(.int (xs.getD 6 0))]))
              refine Gl.pre (fun _ k => XS.aloadN X0.here hx rfl (hb hby d4_58) rfl rfl k) ?_
              show Gl p.tables e below PP (s₁.setTop (mkF m 59 #[.val (.ref a1), .val (.ref a2)] [(.ref a2), (.int (xs.getD 6 0))]))
              refine Gl.pre (fun _ k => XS.bipush X0.here hx rfl (hb hby d4_59) k) ?_
              show Gl p.tables e below PP (s₁.setTop (mkF m 61 #[.val (.ref a1), .val (.ref a2)] [(.int (6 : Int32)), (.ref a2), (.int (xs.getD 6 0))]))
              refine Gl.pre (fun _ k => own_ldB X0 hx hZ e0 V_a2 (j := (6 : Int32)) (i := 6) (by decide) (by decide) (by rw [hl2]; decide) (v := (ys.getD 6 0)) rfl (g := (mkF m 61 #[.val (.ref a1), .val (.ref a2)] [(.int (6 : Int32)), (.ref a2), (.int (xs.getD 6 0))])) rfl rfl (hb hby d4_61) _ k) ?_
              show Gl p.tables e below PP (s₁.setTop (mkF m 62 #[.val (.ref a1), .val (.ref a2)] [(.int (ys.getD 6 0)), (.int (xs.getD 6 0))]))
              by_cases hc7 : (xs.getD 6 0) = (ys.getD 6 0)
              · refine Gl.pre (fun _ k => XS.icmpNo X0.here hx rfl (hb hby d4_62) rfl (teq hc7).2 k) ?_
                show Gl p.tables e below PP (s₁.setTop (mkF m 65 #[.val (.ref a1), .val (.ref a2)] []))
                refine Gl.pre (fun _ k => XS.aloadN X0.here hx rfl (hb hby d4_65) rfl rfl k) ?_
                show Gl p.tables e below PP (s₁.setTop (mkF m 66 #[.val (.ref a1), .val (.ref a2)] [(.ref a1)]))
                refine Gl.pre (fun _ k => XS.bipush X0.here hx rfl (hb hby d4_66) k) ?_
                show Gl p.tables e below PP (s₁.setTop (mkF m 68 #[.val (.ref a1), .val (.ref a2)] [(.int (7 : Int32)), (.ref a1)]))
                refine Gl.pre (fun _ k => own_ldB X0 hx hZ e0 V_a1 (j := (7 : Int32)) (i := 7) (by decide) (by decide) (by rw [hl1]; decide) (v := (xs.getD 7 0)) rfl (g := (mkF m 68 #[.val (.ref a1), .val (.ref a2)] [(.int (7 : Int32)), (.ref a1)])) rfl rfl (hb hby d4_68) _ k) ?_
                show Gl p.tables e below PP (s₁.setTop (mkF m 69 #[.val (.ref a1), .val (.ref a2)] [(.int (xs.getD 7 0))]))
                refine Gl.pre (fun _ k => XS.aloadN X0.here hx rfl (hb hby d4_69) rfl rfl k) ?_
                show Gl p.tables e below PP (s₁.setTop (mkF m 70 #[.val (.ref a1), .val (.ref a2)] [(.ref a2), (.int (xs.getD 7 0))]))
                refine Gl.pre (fun _ k => XS.bipush X0.here hx rfl (hb hby d4_70) k) ?_
                show Gl p.tables e below PP (s₁.setTop (mkF m 72 #[.val (.ref a1), .val (.ref a2)] [(.int (7 : Int32)), (.ref a2), (.int (xs.getD 7 0))]))
                refine Gl.pre (fun _ k => own_ldB X0 hx hZ e0 V_a2 (j := (7 : Int32)) (i := 7) (by decide) (by decide) (by rw [hl2]; decide) (v := (ys.getD 7 0)) rfl (g := (mkF m 72 #[.val (.ref a1), .val (.ref a2)] [(.int (7 : Int32)), (.ref a2), (.int (xs.getD 7 0))])) rfl rfl (hb hby d4_72) _ k) ?_
                show Gl p.tables e below PP (s₁.setTop (mkF m 73 #[.val (.ref a1), .val (.ref a2)] [(.int (ys.getD 7 0)), (.int (xs.getD 7 0))]))
                by_cases hc8 : (xs.getD 7 0) = (ys.getD 7 0)
                · refine Gl.pre (fun _ k => XS.icmpNo X0.here hx rfl (hb hby d4_73) rfl (teq hc8).2 k) ?_
                  show Gl p.tables e below PP (s₁.setTop (mkF m 76 #[.val (.ref a1), .val (.ref a2)] []))
                  refine Gl.pre (fun _ k => XS.aloadN X0.here hx rfl (hb hby d4_76) rfl rfl k) ?_
                  show Gl p.tables e below PP (s₁.setTop (mkF m 77 #[.val (.ref a1), .val (.ref a2)] [(.ref a1)]))
                  refine Gl.pre (fun _ k => XS.bipush X0.here hx rfl (hb hby d4_77) k) ?_
                  show Gl p.tables e below PP (s₁.setTop (mkF m 79 #[.val (.ref a1), .val (.ref a2)] [(.int (8 : Int32)), (.ref a1)]))
                  refine Gl.pre (fun _ k => own_ldB X0 hx hZ e0 V_a1 (j := (8 : Int32)) (i := 8) (by decide) (by decide) (by rw [hl1]; decide) (v := (xs.getD 8 0)) rfl (g := (mkF m 79 #[.val (.ref a1), .val (.ref a2)] [(.int (8 : Int32)), (.ref a1)])) rfl rfl (hb hby d4_79) _ k) ?_
                  show Gl p.tables e below PP (s₁.setTop (mkF m 80 #[.val (.ref a1), .val (.ref a2)] [(.int (xs.getD 8 0))]))
                  refine Gl.pre (fun _ k => XS.aloadN X0.here hx rfl (hb hby d4_80) rfl rfl k) ?_
                  show Gl p.tables e below PP (s₁.setTop (mkF m 81 #[.val (.ref a1), .val (.ref a2)] [(.ref a2), (.int (xs.getD 8 0))]))
                  refine Gl.pre (fun _ k => XS.bipush X0.here hx rfl (hb hby d4_81) k) ?_
                  show Gl p.tables e below PP (s₁.setTop (mkF m 83 #[.val (.ref a1), .val (.ref a2)] [(.int (8 : Int32)), (.ref a2), (.int (xs.getD 8 0))]))
                  refine Gl.pre (fun _ k => own_ldB X0 hx hZ e0 V_a2 (j := (8 : Int32)) (i := 8) (by decide) (by decide) (by rw [hl2]; decide) (v := (ys.getD 8 0)) rfl (g := (mkF m 83 #[.val (.ref a1), .val (.ref a2)] [(.int (8 : Int32)), (.ref a2), (.int (xs.getD 8 0))])) rfl rfl (hb hby d4_83) _ k) ?_
                  show Gl p.tables e below PP (s₁.setTop (mkF m 84 #[.val (.ref a1), .val (.ref a2)] [(.int (ys.getD 8 0)), (.int (xs.getD 8 0))]))
                  suffices J9 : Gl p.tables e below PP (s₁.setTop (mkF m 92 #[.val (.ref a1), .val (.ref a2)] [(.int (own_pi ((xs.getD 8 0) = (ys.getD 8 0))))])) by
                    by_cases hd9 : (xs.getD 8 0) = (ys.getD 8 0)
                    · rw [own_pi_t hd9] at J9
                      refine Gl.pre (fun _ k => XS.icmpNo X0.here hx rfl (hb hby d4_84) rfl (teq hd9).2 k) ?_
                      show Gl p.tables e below PP (s₁.setTop (mkF m 87 #[.val (.ref a1), .val (.ref a2)] []))
                      refine Gl.pre (fun _ k => XS.iconst X0.here hx rfl (hb hby d4_87) k) ?_
                      show Gl p.tables e below PP (s₁.setTop (mkF m 88 #[.val (.ref a1), .val (.ref a2)] [(.int (1 : Int32))]))
                      refine Gl.pre (fun _ k => XS.goto X0.here hx rfl (pc0 := 88) (pc' := 92) rfl (hb hby d4_88) (by decide) (by decide) k) ?_
                      show Gl p.tables e below PP (s₁.setTop (mkF m 92 #[.val (.ref a1), .val (.ref a2)] [(.int (1 : Int32))]))
                      exact J9
                    · rw [own_pi_f hd9] at J9
                      refine Gl.pre (fun _ k => XS.icmpYes X0.here hx rfl (pc0 := 84) (pc' := 91) rfl (hb hby d4_84) rfl (feq hd9).2 (by decide) (by decide) k) ?_
                      show Gl p.tables e below PP (s₁.setTop (mkF m 91 #[.val (.ref a1), .val (.ref a2)] []))
                      refine Gl.pre (fun _ k => XS.iconst X0.here hx rfl (hb hby d4_91) k) ?_
                      show Gl p.tables e below PP (s₁.setTop (mkF m 92 #[.val (.ref a1), .val (.ref a2)] [(.int (0 : Int32))]))
                      exact J9
                  show Gl p.tables e below PP (s₁.setTop (mkF m 92 #[.val (.ref a1), .val (.ref a2)] [(.int (own_pi ((xs.getD 8 0) = (ys.getD 8 0))))]))
                  rw [hPP]
                  refine own_finN (Q := (Q4 Z a1 a2 xs ys h0 n0)) X0 hx hlk Bd.returns (t := .boolean) (z' := (own_pi ((xs.getD 8 0) = (ys.getD 8 0)))) (by simp) own_nar_pi (hb hby d4_92) ?_ (by decide) (by decide)
                  show Q4 Z a1 a2 xs ys h0 n0 _ s₁.heap _
                  rw [e0]
                  refine ⟨?_, N0, rfl⟩
                  exact congrArg (fun z => some (Value.int z)) (own_pi_eq ⟨fun q => ⟨hc1, hc2, hc3, hc4, hc5, hc6, hc7, hc8, q⟩, fun q => q.2.2.2.2.2.2.2.2⟩)
                · refine Gl.pre (fun _ k => XS.icmpYes X0.here hx rfl (pc0 := 73) (pc' := 91) rfl (hb hby d4_73) rfl (feq hc8).2 (by decide) (by decide) k) ?_
                  show Gl p.tables e below PP (s₁.setTop (mkF m 91 #[.val (.ref a1), .val (.ref a2)] []))
                  refine Gl.pre (fun _ k => XS.iconst X0.here hx rfl (hb hby d4_91) k) ?_
                  show Gl p.tables e below PP (s₁.setTop (mkF m 92 #[.val (.ref a1), .val (.ref a2)] [(.int (0 : Int32))]))
                  rw [hPP]
                  refine own_finN (Q := (Q4 Z a1 a2 xs ys h0 n0)) X0 hx hlk Bd.returns (t := .boolean) (z' := (0 : Int32)) (by simp) (by decide) (hb hby d4_92) ?_ (by decide) (by decide)
                  show Q4 Z a1 a2 xs ys h0 n0 _ s₁.heap _
                  rw [e0]
                  refine ⟨?_, N0, rfl⟩
                  rw [own_pi_f (fun q => hc8 q.2.2.2.2.2.2.2.1)]
              · refine Gl.pre (fun _ k => XS.icmpYes X0.here hx rfl (pc0 := 62) (pc' := 91) rfl (hb hby d4_62) rfl (feq hc7).2 (by decide) (by decide) k) ?_
                show Gl p.tables e below PP (s₁.setTop (mkF m 91 #[.val (.ref a1), .val (.ref a2)] []))
                refine Gl.pre (fun _ k => XS.iconst X0.here hx rfl (hb hby d4_91) k) ?_
                show Gl p.tables e below PP (s₁.setTop (mkF m 92 #[.val (.ref a1), .val (.ref a2)] [(.int (0 : Int32))]))
                rw [hPP]
                refine own_finN (Q := (Q4 Z a1 a2 xs ys h0 n0)) X0 hx hlk Bd.returns (t := .boolean) (z' := (0 : Int32)) (by simp) (by decide) (hb hby d4_92) ?_ (by decide) (by decide)
                show Q4 Z a1 a2 xs ys h0 n0 _ s₁.heap _
                rw [e0]
                refine ⟨?_, N0, rfl⟩
                rw [own_pi_f (fun q => hc7 q.2.2.2.2.2.2.1)]
            · refine Gl.pre (fun _ k => XS.icmpYes X0.here hx rfl (pc0 := 51) (pc' := 91) rfl (hb hby d4_51) rfl (feq hc6).2 (by decide) (by decide) k) ?_
              show Gl p.tables e below PP (s₁.setTop (mkF m 91 #[.val (.ref a1), .val (.ref a2)] []))
              refine Gl.pre (fun _ k => XS.iconst X0.here hx rfl (hb hby d4_91) k) ?_
              show Gl p.tables e below PP (s₁.setTop (mkF m 92 #[.val (.ref a1), .val (.ref a2)] [(.int (0 : Int32))]))
              rw [hPP]
              refine own_finN (Q := (Q4 Z a1 a2 xs ys h0 n0)) X0 hx hlk Bd.returns (t := .boolean) (z' := (0 : Int32)) (by simp) (by decide) (hb hby d4_92) ?_ (by decide) (by decide)
              show Q4 Z a1 a2 xs ys h0 n0 _ s₁.heap _
              rw [e0]
              refine ⟨?_, N0, rfl⟩
              rw [own_pi_f (fun q => hc6 q.2.2.2.2.2.1)]
          · refine Gl.pre (fun _ k => XS.icmpYes X0.here hx rfl (pc0 := 42) (pc' := 91) rfl (hb hby d4_42) rfl (feq hc5).2 (by decide) (by decide) k) ?_
            show Gl p.tables e below PP (s₁.setTop (mkF m 91 #[.val (.ref a1), .val (.ref a2)] []))
            refine Gl.pre (fun _ k => XS.iconst X0.here hx rfl (hb hby d4_91) k) ?_
            show Gl p.tables e below PP (s₁.setTop (mkF m 92 #[.val (.ref a1), .val (.ref a2)] [(.int (0 : Int32))]))
            rw [hPP]
            refine own_finN (Q := (Q4 Z a1 a2 xs ys h0 n0)) X0 hx hlk Bd.returns (t := .boolean) (z' := (0 : Int32)) (by simp) (by decide) (hb hby d4_92) ?_ (by decide) (by decide)
            show Q4 Z a1 a2 xs ys h0 n0 _ s₁.heap _
            rw [e0]
            refine ⟨?_, N0, rfl⟩
            rw [own_pi_f (fun q => hc5 q.2.2.2.2.1)]
        · refine Gl.pre (fun _ k => XS.icmpYes X0.here hx rfl (pc0 := 33) (pc' := 91) rfl (hb hby d4_33) rfl (feq hc4).2 (by decide) (by decide) k) ?_
          show Gl p.tables e below PP (s₁.setTop (mkF m 91 #[.val (.ref a1), .val (.ref a2)] []))
          refine Gl.pre (fun _ k => XS.iconst X0.here hx rfl (hb hby d4_91) k) ?_
          show Gl p.tables e below PP (s₁.setTop (mkF m 92 #[.val (.ref a1), .val (.ref a2)] [(.int (0 : Int32))]))
          rw [hPP]
          refine own_finN (Q := (Q4 Z a1 a2 xs ys h0 n0)) X0 hx hlk Bd.returns (t := .boolean) (z' := (0 : Int32)) (by simp) (by decide) (hb hby d4_92) ?_ (by decide) (by decide)
          show Q4 Z a1 a2 xs ys h0 n0 _ s₁.heap _
          rw [e0]
          refine ⟨?_, N0, rfl⟩
          rw [own_pi_f (fun q => hc4 q.2.2.2.1)]
      · refine Gl.pre (fun _ k => XS.icmpYes X0.here hx rfl (pc0 := 24) (pc' := 91) rfl (hb hby d4_24) rfl (feq hc3).2 (by decide) (by decide) k) ?_
        show Gl p.tables e below PP (s₁.setTop (mkF m 91 #[.val (.ref a1), .val (.ref a2)] []))
        refine Gl.pre (fun _ k => XS.iconst X0.here hx rfl (hb hby d4_91) k) ?_
        show Gl p.tables e below PP (s₁.setTop (mkF m 92 #[.val (.ref a1), .val (.ref a2)] [(.int (0 : Int32))]))
        rw [hPP]
        refine own_finN (Q := (Q4 Z a1 a2 xs ys h0 n0)) X0 hx hlk Bd.returns (t := .boolean) (z' := (0 : Int32)) (by simp) (by decide) (hb hby d4_92) ?_ (by decide) (by decide)
        show Q4 Z a1 a2 xs ys h0 n0 _ s₁.heap _
        rw [e0]
        refine ⟨?_, N0, rfl⟩
        rw [own_pi_f (fun q => hc3 q.2.2.1)]
    · refine Gl.pre (fun _ k => XS.icmpYes X0.here hx rfl (pc0 := 15) (pc' := 91) rfl (hb hby d4_15) rfl (feq hc2).2 (by decide) (by decide) k) ?_
      show Gl p.tables e below PP (s₁.setTop (mkF m 91 #[.val (.ref a1), .val (.ref a2)] []))
      refine Gl.pre (fun _ k => XS.iconst X0.here hx rfl (hb hby d4_91) k) ?_
      show Gl p.tables e below PP (s₁.setTop (mkF m 92 #[.val (.ref a1), .val (.ref a2)] [(.int (0 : Int32))]))
      rw [hPP]
      refine own_finN (Q := (Q4 Z a1 a2 xs ys h0 n0)) X0 hx hlk Bd.returns (t := .boolean) (z' := (0 : Int32)) (by simp) (by decide) (hb hby d4_92) ?_ (by decide) (by decide)
      show Q4 Z a1 a2 xs ys h0 n0 _ s₁.heap _
      rw [e0]
      refine ⟨?_, N0, rfl⟩
      rw [own_pi_f (fun q => hc2 q.2.1)]
  · refine Gl.pre (fun _ k => XS.icmpYes X0.here hx rfl (pc0 := 6) (pc' := 91) rfl (hb hby d4_6) rfl (feq hc1).2 (by decide) (by decide) k) ?_
    show Gl p.tables e below PP (s₁.setTop (mkF m 91 #[.val (.ref a1), .val (.ref a2)] []))
    refine Gl.pre (fun _ k => XS.iconst X0.here hx rfl (hb hby d4_91) k) ?_
    show Gl p.tables e below PP (s₁.setTop (mkF m 92 #[.val (.ref a1), .val (.ref a2)] [(.int (0 : Int32))]))
    rw [hPP]
    refine own_finN (Q := (Q4 Z a1 a2 xs ys h0 n0)) X0 hx hlk Bd.returns (t := .boolean) (z' := (0 : Int32)) (by simp) (by decide) (hb hby d4_92) ?_ (by decide) (by decide)
    show Q4 Z a1 a2 xs ys h0 n0 _ s₁.heap _
    rw [e0]
    refine ⟨?_, N0, rfl⟩
    rw [own_pi_f (fun q => hc1 q.1)]
theorem pn_0 : plainName "io/heapwire/FrameOutputPutVarintPinLaw" = true := by first | (simp [plainName, overriddenIn]; done) | decide +kernel
theorem ef_0 (m : MethodId) (p1 : Int32) (p2 : Int32) (p3 : Int32) : entryFrame m #[(.int p1), (.int p2), (.int p3)] maxLocals = mkF m 0 #[.val (.int p1), .val (.int p2), .val (.int p3), .unset, .unset, .unset, .unset, .unset, .unset, .unset, .unset] [] := by first | (simp [entryFrame, mkF, argsToLocals, Value.category, maxLocals]; done) | rfl
def Q0 (Z : State) (p1 : Int32) (p2 : Int32) (p3 : Int32) (h0 : Heap) (n0 : Nat) (v : Option Value) (h : Heap) (L : List Loc) : Prop := v = some (.int (1 : Int32)) ∧ Fr n0 L
set_option maxRecDepth 65536 in
set_option maxHeartbeats 40000000 in
theorem rm0 (l : Launch) (Z : State) (a0 : Array Value) (hw : ∀ d ∈ tables_1, d.before a0 Z = true) (ws : List Jvm.Cond) (p1 : Int32) (p2 : Int32) (p3 : Int32) (h0 : Heap) (n0 : Nat) (Z0 : n0 ≤ h0.size)  :
    MetFree l x (head1 (Jvm.Cond.code x code maxLocals ret :: ws) room_1) (fun a U => a = #[(.int p1), (.int p2), (.int p3)] ∧ Z.Warmed39 U.vm ∧ U.heap = h0) (fun _ _ _ _ _ => True) (fun _ U o U' => ∃ v L, o = .returned v ∧ Q0 Z p1 p2 p3 h0 n0 v U'.heap L ∧ FrameEnd U o U' L room_1.cells room_1.slots) := by
  refine MetFree.of_bodySF (plainFor_of_name pn_0) hisR ?_
  intro p e s m args below meth c s₁ Bd hml0 hP hK
  obtain ⟨rfl, hZ, hh⟩ := hP
  have hx := Bd.exec
  have hby := Bd.bytes
  have hlk : meth.locks = false := BodyLoose.notSynchronized Bd
  have hml : c.maxLocals = 11 := hml0
  have hown : s.vm.findClass "io/heapwire/FrameOutputPutVarintPinLaw" = some m.cls := findClass_of_methodNamed Bd.named
  have hnm := (name_of_methodNamed Bd.named Bd.method).1
  have X0 : Stand p l e room_1 s m #[(.int p1), (.int p2), (.int p3)] below meth c s₁ [] 0 0 := Stand.of_body Bd
  have e0 : s₁.heap = h0 := by rw [← hh, Bd.state]; rfl
  have N0 := Fr.nil n0
  show Gl p.tables e below (fun (o : Outcome) (U' : State) => ∃ v L, o = .returned v ∧ Q0 Z p1 p2 p3 h0 n0 v U'.heap L ∧ FrameEnd s o U' L room_1.cells room_1.slots) _
  refine Gl.pre (fun t k => castTop (ef_0 m p1 p2 p3) k) ?_
  obtain ⟨PP, hPP⟩ : ∃ P : Outcome → State → Prop, P = (fun (o : Outcome) (U' : State) => ∃ v L, o = .returned v ∧ Q0 Z p1 p2 p3 h0 n0 v U'.heap L ∧ FrameEnd s o U' L room_1.cells room_1.slots) := ⟨_, rfl⟩
  rw [← hPP]
  show Gl p.tables e below PP (s₁.setTop (mkF m 0 #[.val (.int p1), .val (.int p2), .val (.int p3), .unset, .unset, .unset, .unset, .unset, .unset, .unset, .unset] []))
  refine Gl.pre (fun _ k => XS.iloadN X0.here hx rfl (hb hby at_0) rfl k) ?_
  show Gl p.tables e below PP (s₁.setTop (mkF m 1 #[.val (.int p1), .val (.int p2), .val (.int p3), .unset, .unset, .unset, .unset, .unset, .unset, .unset, .unset] [(.int p2)]))
  refine Gl.pre (fun _ k => XS.iconst X0.here hx rfl (hb hby at_1) k) ?_
  show Gl p.tables e below PP (s₁.setTop (mkF m 2 #[.val (.int p1), .val (.int p2), .val (.int p3), .unset, .unset, .unset, .unset, .unset, .unset, .unset, .unset] [(.int (3 : Int32)), (.int p2)]))
  refine Gl.pre (fun _ k => XS.iand X0.here hx rfl (hb hby at_2) rfl k) ?_
  show Gl p.tables e below PP (s₁.setTop (mkF m 3 #[.val (.int p1), .val (.int p2), .val (.int p3), .unset, .unset, .unset, .unset, .unset, .unset, .unset, .unset] [(.int (p2 &&& (3 : Int32)))]))
  refine Gl.pre (fun _ k => XS.istoreN X0.here hx rfl (hb hby at_3) rfl (l' := #[.val (.int p1), .val (.int p2), .val (.int p3), .val (.int (p2 &&& (3 : Int32))), .unset, .unset, .unset, .unset, .unset, .unset, .unset]) rfl k) ?_
  show Gl p.tables e below PP (s₁.setTop (mkF m 4 #[.val (.int p1), .val (.int p2), .val (.int p3), .val (.int (p2 &&& (3 : Int32))), .unset, .unset, .unset, .unset, .unset, .unset, .unset] []))
  refine Gl.pre (fun _ k => XS.iloadN X0.here hx rfl (hb hby at_4) rfl k) ?_
  show Gl p.tables e below PP (s₁.setTop (mkF m 5 #[.val (.int p1), .val (.int p2), .val (.int p3), .val (.int (p2 &&& (3 : Int32))), .unset, .unset, .unset, .unset, .unset, .unset, .unset] [(.int p3)]))
  refine Gl.pre (fun _ k => XS.i2b X0.here hx rfl (hb hby at_5) rfl k) ?_
  show Gl p.tables e below PP (s₁.setTop (mkF m 6 #[.val (.int p1), .val (.int p2), .val (.int p3), .val (.int (p2 &&& (3 : Int32))), .unset, .unset, .unset, .unset, .unset, .unset, .unset] [(.int (p3.toInt8.toInt32))]))
  refine Gl.pre (fun _ k => XS.istore X0.here hx rfl (hb hby at_6) rfl (l' := #[.val (.int p1), .val (.int p2), .val (.int p3), .val (.int (p2 &&& (3 : Int32))), .val (.int (p3.toInt8.toInt32)), .unset, .unset, .unset, .unset, .unset, .unset]) rfl k) ?_
  show Gl p.tables e below PP (s₁.setTop (mkF m 8 #[.val (.int p1), .val (.int p2), .val (.int p3), .val (.int (p2 &&& (3 : Int32))), .val (.int (p3.toInt8.toInt32)), .unset, .unset, .unset, .unset, .unset, .unset] []))
  refine Gl.pre (fun _ k => XS.bipush X0.here hx rfl (hb hby at_8) k) ?_
  show Gl p.tables e below PP (s₁.setTop (mkF m 10 #[.val (.int p1), .val (.int p2), .val (.int p3), .val (.int (p2 &&& (3 : Int32))), .val (.int (p3.toInt8.toInt32)), .unset, .unset, .unset, .unset, .unset, .unset] [(.int (9 : Int32))]))
  obtain ⟨T1, h1, k1, X1, e1, E1, A1, st1⟩ := newP X0 hx hZ (hw _ (List.mem_of_getElem? (i := 0) rfl)) e0 (g := (mkF m 10 #[.val (.int p1), .val (.int p2), .val (.int p3), .val (.int (p2 &&& (3 : Int32))), .val (.int (p3.toInt8.toInt32)), .unset, .unset, .unset, .unset, .unset, .unset] [(.int (9 : Int32))])) rfl (hb hby at_10) rfl (by decide) (cap := 9) (by decide) (by decide) (by decide) (by decide)
  obtain ⟨b1, g1⟩ : ∃ z, z = h0.size := ⟨_, rfl⟩
  rw [← g1] at A1 st1
  refine Gl.pre (fun _ k => st1 _ k) ?_
  have g_b1 : n0 ≤ b1 := Nat.le_trans Z0 (Nat.le_of_eq g1.symm)
  have Z1 : n0 ≤ h1.size := Nat.le_trans Z0 E1.1
  have V_b1 : Bal Z h1 b1 .byte [(0 : Int32), (0 : Int32), (0 : Int32), (0 : Int32), (0 : Int32), (0 : Int32), (0 : Int32), (0 : Int32), (0 : Int32)] := Bal.new (ty := .byte) A1 (n := 9) (by decide) rfl
  show Gl p.tables e below PP (T1.setTop (mkF m 12 #[.val (.int p1), .val (.int p2), .val (.int p3), .val (.int (p2 &&& (3 : Int32))), .val (.int (p3.toInt8.toInt32)), .unset, .unset, .unset, .unset, .unset, .unset] [(.ref b1)]))
  refine Gl.pre (fun _ k => XS.astore X1.here hx rfl (hb hby at_12) rfl rfl (l' := #[.val (.int p1), .val (.int p2), .val (.int p3), .val (.int (p2 &&& (3 : Int32))), .val (.int (p3.toInt8.toInt32)), .val (.ref b1), .unset, .unset, .unset, .unset, .unset]) rfl k) ?_
  show Gl p.tables e below PP (T1.setTop (mkF m 14 #[.val (.int p1), .val (.int p2), .val (.int p3), .val (.int (p2 &&& (3 : Int32))), .val (.int (p3.toInt8.toInt32)), .val (.ref b1), .unset, .unset, .unset, .unset, .unset] []))
  refine Gl.pre (fun _ k => XS.bipush X1.here hx rfl (hb hby at_14) k) ?_
  show Gl p.tables e below PP (T1.setTop (mkF m 16 #[.val (.int p1), .val (.int p2), .val (.int p3), .val (.int (p2 &&& (3 : Int32))), .val (.int (p3.toInt8.toInt32)), .val (.ref b1), .unset, .unset, .unset, .unset, .unset] [(.int (9 : Int32))]))
  obtain ⟨T2, h2, k2, X2, e2, E2, A2, st2⟩ := newP X1 hx hZ (hw _ (List.mem_of_getElem? (i := 0) rfl)) e1 (g := (mkF m 16 #[.val (.int p1), .val (.int p2), .val (.int p3), .val (.int (p2 &&& (3 : Int32))), .val (.int (p3.toInt8.toInt32)), .val (.ref b1), .unset, .unset, .unset, .unset, .unset] [(.int (9 : Int32))])) rfl (hb hby at_16) rfl (by decide) (cap := 9) (by decide) (by decide) (by decide) (by decide)
  obtain ⟨b2, g2⟩ : ∃ z, z = h1.size := ⟨_, rfl⟩
  rw [← g2] at A2 st2
  refine Gl.pre (fun _ k => st2 _ k) ?_
  have own_ne_b1_b2 : b1 ≠ b2 := by have q := V_b1.lt; rw [g2]; exact Nat.ne_of_lt q
  have own_ne_b2_b1 : b2 ≠ b1 := own_ne_b1_b2.symm
  have g_b2 : n0 ≤ b2 := Nat.le_trans Z1 (Nat.le_of_eq g2.symm)
  have V_b1 := V_b1.ext E2
  have Z2 : n0 ≤ h2.size := Nat.le_trans Z1 E2.1
  have V_b2 : Bal Z h2 b2 .byte [(0 : Int32), (0 : Int32), (0 : Int32), (0 : Int32), (0 : Int32), (0 : Int32), (0 : Int32), (0 : Int32), (0 : Int32)] := Bal.new (ty := .byte) A2 (n := 9) (by decide) rfl
  show Gl p.tables e below PP (T2.setTop (mkF m 18 #[.val (.int p1), .val (.int p2), .val (.int p3), .val (.int (p2 &&& (3 : Int32))), .val (.int (p3.toInt8.toInt32)), .val (.ref b1), .unset, .unset, .unset, .unset, .unset] [(.ref b2)]))
  refine Gl.pre (fun _ k => XS.astore X2.here hx rfl (hb hby at_18) rfl rfl (l' := #[.val (.int p1), .val (.int p2), .val (.int p3), .val (.int (p2 &&& (3 : Int32))), .val (.int (p3.toInt8.toInt32)), .val (.ref b1), .val (.ref b2), .unset, .unset, .unset, .unset]) rfl k) ?_
  show Gl p.tables e below PP (T2.setTop (mkF m 20 #[.val (.int p1), .val (.int p2), .val (.int p3), .val (.int (p2 &&& (3 : Int32))), .val (.int (p3.toInt8.toInt32)), .val (.ref b1), .val (.ref b2), .unset, .unset, .unset, .unset] []))
  refine Gl.pre (fun _ k => XS.aload X2.here hx rfl (hb hby at_20) rfl rfl k) ?_
  show Gl p.tables e below PP (T2.setTop (mkF m 22 #[.val (.int p1), .val (.int p2), .val (.int p3), .val (.int (p2 &&& (3 : Int32))), .val (.int (p3.toInt8.toInt32)), .val (.ref b1), .val (.ref b2), .unset, .unset, .unset, .unset] [(.ref b1)]))
  refine Gl.pre (fun _ k => XS.iload X2.here hx rfl (hb hby at_22) rfl k) ?_
  show Gl p.tables e below PP (T2.setTop (mkF m 24 #[.val (.int p1), .val (.int p2), .val (.int p3), .val (.int (p2 &&& (3 : Int32))), .val (.int (p3.toInt8.toInt32)), .val (.ref b1), .val (.ref b2), .unset, .unset, .unset, .unset] [(.int (p3.toInt8.toInt32)), (.ref b1)]))
  obtain ⟨_, _, ⟨T3, L3, k3, n3⟩, -, X3, ⟨Lc3, hQ3, l3, y3, z3⟩, st3⟩ := Jvm.LawKit.callS X2 hx (y := (⟨"io/heapwire/FrameOutputPutVarintPinLaw", "fill9", "([BB)V"⟩ : MethodName)) hown (mvT hZ (hw _ (List.mem_of_getElem? (i := 1) rfl))) (mvT hZ (hw _ (List.mem_of_getElem? (i := 2) rfl))) (mvT hZ (hw _ (List.mem_of_getElem? (i := 3) rfl))) (mvT hZ (hw _ (List.mem_of_getElem? (i := 4) rfl))) (by decide) (backOf (W := 0) (rm1 l Z a0 hw [] b1 (p3.toInt8.toInt32) h2 n0 Z2 V_b1 g_b1) hZ (hw _ (List.mem_of_getElem? (i := 4) rfl)) (hw _ (List.mem_of_getElem? (i := 3) rfl)) (by decide) (by decide)) (g := (mkF m 24 #[.val (.int p1), .val (.int p2), .val (.int p3), .val (.int (p2 &&& (3 : Int32))), .val (.int (p3.toInt8.toInt32)), .val (.ref b1), .val (.ref b2), .unset, .unset, .unset, .unset] [(.int (p3.toInt8.toInt32)), (.ref b1)])) rfl (by rw [hml]; rfl) (argsL := [(.ref b1), (.int (p3.toInt8.toInt32))]) (rest := []) (lenOf pd_0 rfl) rfl (by show 2 * 0 + _ ≤ _; exact Nat.le_of_eq rfl) (hb hby at_24) (fun _ _ => ⟨rfl, e2, (by decide : 2 + 0 ≤ _), (by decide : 18 + 0 ≤ _)⟩)
  dsimp only [Pt.U, Pt.locs, Pt.cells, Pt.slots] at X3 l3 y3 z3 st3 hQ3
  subst l3 y3 z3
  obtain ⟨rfl, N3q, K3, V3q⟩ := hQ3
  have N3 := Fr.app N0 N3q
  refine Gl.pre (fun _ k => st3 _ k) ?_
  have V_b2 := V_b2.keep K3 (ninS (own_ne_b2_b1) nin0)
  have Z3 : n0 ≤ T3.heap.size := Nat.le_trans Z2 K3.1
  have V_b1 := V3q
  show Gl p.tables e below PP (T3.setTop (mkF m 27 #[.val (.int p1), .val (.int p2), .val (.int p3), .val (.int (p2 &&& (3 : Int32))), .val (.int (p3.toInt8.toInt32)), .val (.ref b1), .val (.ref b2), .unset, .unset, .unset, .unset] []))
  refine Gl.pre (fun _ k => XS.aload X3.here hx rfl (hb hby at_27) rfl rfl k) ?_
  show Gl p.tables e below PP (T3.setTop (mkF m 29 #[.val (.int p1), .val (.int p2), .val (.int p3), .val (.int (p2 &&& (3 : Int32))), .val (.int (p3.toInt8.toInt32)), .val (.ref b1), .val (.ref b2), .unset, .unset, .unset, .unset] [(.ref b2)]))
  refine Gl.pre (fun _ k => XS.iload X3.here hx rfl (hb hby at_29) rfl k) ?_
  show Gl p.tables e below PP (T3.setTop (mkF m 31 #[.val (.int p1), .val (.int p2), .val (.int p3), .val (.int (p2 &&& (3 : Int32))), .val (.int (p3.toInt8.toInt32)), .val (.ref b1), .val (.ref b2), .unset, .unset, .unset, .unset] [(.int (p3.toInt8.toInt32)), (.ref b2)]))
  obtain ⟨_, _, ⟨T4, L4, k4, n4⟩, -, X4, ⟨Lc4, hQ4, l4, y4, z4⟩, st4⟩ := Jvm.LawKit.callS X3 hx (y := (⟨"io/heapwire/FrameOutputPutVarintPinLaw", "fill9", "([BB)V"⟩ : MethodName)) hown (mvT hZ (hw _ (List.mem_of_getElem? (i := 1) rfl))) (mvT hZ (hw _ (List.mem_of_getElem? (i := 2) rfl))) (mvT hZ (hw _ (List.mem_of_getElem? (i := 3) rfl))) (mvT hZ (hw _ (List.mem_of_getElem? (i := 4) rfl))) (by decide) (backOf (W := 0) (rm1 l Z a0 hw [] b2 (p3.toInt8.toInt32) T3.heap n0 Z3 V_b2 g_b2) hZ (hw _ (List.mem_of_getElem? (i := 4) rfl)) (hw _ (List.mem_of_getElem? (i := 3) rfl)) (by decide) (by decide)) (g := (mkF m 31 #[.val (.int p1), .val (.int p2), .val (.int p3), .val (.int (p2 &&& (3 : Int32))), .val (.int (p3.toInt8.toInt32)), .val (.ref b1), .val (.ref b2), .unset, .unset, .unset, .unset] [(.int (p3.toInt8.toInt32)), (.ref b2)])) rfl (by rw [hml]; rfl) (argsL := [(.ref b2), (.int (p3.toInt8.toInt32))]) (rest := []) (lenOf pd_0 rfl) rfl (by show 2 * 0 + _ ≤ _; exact Nat.le_of_eq rfl) (hb hby at_31) (fun _ _ => ⟨rfl, rfl, (by decide : 2 + 0 ≤ _), (by decide : 18 + 0 ≤ _)⟩)
  dsimp only [Pt.U, Pt.locs, Pt.cells, Pt.slots] at X4 l4 y4 z4 st4 hQ4
  subst l4 y4 z4
  obtain ⟨rfl, N4q, K4, V4q⟩ := hQ4
  have N4 := Fr.app N3 N4q
  refine Gl.pre (fun _ k => st4 _ k) ?_
  have V_b1 := V_b1.keep K4 (ninS (own_ne_b1_b2) nin0)
  have Z4 : n0 ≤ T4.heap.size := Nat.le_trans Z3 K4.1
  have V_b2 := V4q
  show Gl p.tables e below PP (T4.setTop (mkF m 34 #[.val (.int p1), .val (.int p2), .val (.int p3), .val (.int (p2 &&& (3 : Int32))), .val (.int (p3.toInt8.toInt32)), .val (.ref b1), .val (.ref b2), .unset, .unset, .unset, .unset] []))
  refine Gl.pre (fun _ k => XS.iloadN X4.here hx rfl (hb hby at_34) rfl k) ?_
  show Gl p.tables e below PP (T4.setTop (mkF m 35 #[.val (.int p1), .val (.int p2), .val (.int p3), .val (.int (p2 &&& (3 : Int32))), .val (.int (p3.toInt8.toInt32)), .val (.ref b1), .val (.ref b2), .unset, .unset, .unset, .unset] [(.int p1)]))
  refine Gl.pre (fun _ k => XS.i2l X4.here hx rfl (hb hby at_35) rfl k) ?_
  show Gl p.tables e below PP (T4.setTop (mkF m 36 #[.val (.int p1), .val (.int p2), .val (.int p3), .val (.int (p2 &&& (3 : Int32))), .val (.int (p3.toInt8.toInt32)), .val (.ref b1), .val (.ref b2), .unset, .unset, .unset, .unset] [(.long (p1.toInt64))]))
  refine Gl.pre (fun _ k => X4.ldc2Long hx hown (mvT hZ (hw _ (List.mem_of_getElem? (i := 5) rfl))) (g := (mkF m 36 #[.val (.int p1), .val (.int p2), .val (.int p3), .val (.int (p2 &&& (3 : Int32))), .val (.int (p3.toInt8.toInt32)), .val (.ref b1), .val (.ref b2), .unset, .unset, .unset, .unset] [(.long (p1.toInt64))])) rfl (hb hby at_36) _ k) ?_
  show Gl p.tables e below PP (T4.setTop (mkF m 39 #[.val (.int p1), .val (.int p2), .val (.int p3), .val (.int (p2 &&& (3 : Int32))), .val (.int (p3.toInt8.toInt32)), .val (.ref b1), .val (.ref b2), .unset, .unset, .unset, .unset] [(.long (4294967295 : Int64)), (.long (p1.toInt64))]))
  refine Gl.pre (fun _ k => XS.land X4.here hx rfl (hb hby at_39) rfl k) ?_
  show Gl p.tables e below PP (T4.setTop (mkF m 40 #[.val (.int p1), .val (.int p2), .val (.int p3), .val (.int (p2 &&& (3 : Int32))), .val (.int (p3.toInt8.toInt32)), .val (.ref b1), .val (.ref b2), .unset, .unset, .unset, .unset] [(.long ((p1.toInt64) &&& (4294967295 : Int64)))]))
  show Gl p.tables e below PP (T4.setTop (mkF m 40 #[.val (.int p1), .val (.int p2), .val (.int p3), .val (.int (p2 &&& (3 : Int32))), .val (.int (p3.toInt8.toInt32)), .val (.ref b1), .val (.ref b2), .unset, .unset, .unset, .unset] [(.long (own_u p1))]))
  refine Gl.pre (fun _ k => XS.lstore X4.here hx rfl (hb hby at_40) rfl (l' := #[.val (.int p1), .val (.int p2), .val (.int p3), .val (.int (p2 &&& (3 : Int32))), .val (.int (p3.toInt8.toInt32)), .val (.ref b1), .val (.ref b2), .val (.long (own_u p1)), .second, .unset, .unset]) rfl k) ?_
  show Gl p.tables e below PP (T4.setTop (mkF m 42 #[.val (.int p1), .val (.int p2), .val (.int p3), .val (.int (p2 &&& (3 : Int32))), .val (.int (p3.toInt8.toInt32)), .val (.ref b1), .val (.ref b2), .val (.long (own_u p1)), .second, .unset, .unset] []))
  suffices J5 : ∀ n9 : Int32, own_nq (own_u p1) n9 → Gl p.tables e below PP (T4.setTop (mkF m 105 #[.val (.int p1), .val (.int p2), .val (.int p3), .val (.int (p2 &&& (3 : Int32))), .val (.int (p3.toInt8.toInt32)), .val (.ref b1), .val (.ref b2), .val (.long (own_u p1)), .second, .val (.int n9), .unset] [])) by
    refine Gl.pre (fun _ k => XS.lload X4.here hx rfl (hb hby at_42) rfl k) ?_
    show Gl p.tables e below PP (T4.setTop (mkF m 44 #[.val (.int p1), .val (.int p2), .val (.int p3), .val (.int (p2 &&& (3 : Int32))), .val (.int (p3.toInt8.toInt32)), .val (.ref b1), .val (.ref b2), .val (.long (own_u p1)), .second, .unset, .unset] [(.long (own_u p1))]))
    refine Gl.pre (fun _ k => X4.ldc2Long hx hown (mvT hZ (hw _ (List.mem_of_getElem? (i := 6) rfl))) (g := (mkF m 44 #[.val (.int p1), .val (.int p2), .val (.int p3), .val (.int (p2 &&& (3 : Int32))), .val (.int (p3.toInt8.toInt32)), .val (.ref b1), .val (.ref b2), .val (.long (own_u p1)), .second, .unset, .unset] [(.long (own_u p1))])) rfl (hb hby at_44) _ k) ?_
    show Gl p.tables e below PP (T4.setTop (mkF m 47 #[.val (.int p1), .val (.int p2), .val (.int p3), .val (.int (p2 &&& (3 : Int32))), .val (.int (p3.toInt8.toInt32)), .val (.ref b1), .val (.ref b2), .val (.long (own_u p1)), .second, .unset, .unset] [(.long (128 : Int64)), (.long (own_u p1))]))
    refine Gl.pre (fun _ k => XS.lcmp X4.here hx rfl (hb hby at_47) rfl k) ?_
    show Gl p.tables e below PP (T4.setTop (mkF m 48 #[.val (.int p1), .val (.int p2), .val (.int p3), .val (.int (p2 &&& (3 : Int32))), .val (.int (p3.toInt8.toInt32)), .val (.ref b1), .val (.ref b2), .val (.long (own_u p1)), .second, .unset, .unset] [(.int (lcmpW (own_u p1) (128 : Int64)))]))
    by_cases hc6 : (own_u p1) < (128 : Int64)
    · refine Gl.pre (fun _ k => XS.ifNo X4.here hx rfl (hb hby at_48) rfl ((if0 _ _).trans (tlt ((lw_lt (own_u p1) (128 : Int64)).mpr hc6)).2.1) k) ?_
      show Gl p.tables e below PP (T4.setTop (mkF m 51 #[.val (.int p1), .val (.int p2), .val (.int p3), .val (.int (p2 &&& (3 : Int32))), .val (.int (p3.toInt8.toInt32)), .val (.ref b1), .val (.ref b2), .val (.long (own_u p1)), .second, .unset, .unset] []))
      refine Gl.pre (fun _ k => XS.iconst X4.here hx rfl (hb hby at_51) k) ?_
      show Gl p.tables e below PP (T4.setTop (mkF m 52 #[.val (.int p1), .val (.int p2), .val (.int p3), .val (.int (p2 &&& (3 : Int32))), .val (.int (p3.toInt8.toInt32)), .val (.ref b1), .val (.ref b2), .val (.long (own_u p1)), .second, .unset, .unset] [(.int (1 : Int32))]))
      refine Gl.pre (fun _ k => XS.istore X4.here hx rfl (hb hby at_52) rfl (l' := #[.val (.int p1), .val (.int p2), .val (.int p3), .val (.int (p2 &&& (3 : Int32))), .val (.int (p3.toInt8.toInt32)), .val (.ref b1), .val (.ref b2), .val (.long (own_u p1)), .second, .val (.int (1 : Int32)), .unset]) rfl k) ?_
      show Gl p.tables e below PP (T4.setTop (mkF m 54 #[.val (.int p1), .val (.int p2), .val (.int p3), .val (.int (p2 &&& (3 : Int32))), .val (.int (p3.toInt8.toInt32)), .val (.ref b1), .val (.ref b2), .val (.long (own_u p1)), .second, .val (.int (1 : Int32)), .unset] []))
      refine Gl.pre (fun _ k => XS.goto X4.here hx rfl (pc0 := 54) (pc' := 105) rfl (hb hby at_54) (by decide) (by decide) k) ?_
      show Gl p.tables e below PP (T4.setTop (mkF m 105 #[.val (.int p1), .val (.int p2), .val (.int p3), .val (.int (p2 &&& (3 : Int32))), .val (.int (p3.toInt8.toInt32)), .val (.ref b1), .val (.ref b2), .val (.long (own_u p1)), .second, .val (.int (1 : Int32)), .unset] []))
      exact J5 _ (by unfold own_nq; rw [if_pos hc6])
    · refine Gl.pre (fun _ k => XS.ifYes X4.here hx rfl (pc0 := 48) (pc' := 57) rfl (hb hby at_48) rfl ((if0 _ _).trans (flt (mt (lw_lt (own_u p1) (128 : Int64)).mp hc6)).2.1) (by decide) (by decide) k) ?_
      show Gl p.tables e below PP (T4.setTop (mkF m 57 #[.val (.int p1), .val (.int p2), .val (.int p3), .val (.int (p2 &&& (3 : Int32))), .val (.int (p3.toInt8.toInt32)), .val (.ref b1), .val (.ref b2), .val (.long (own_u p1)), .second, .unset, .unset] []))
      refine Gl.pre (fun _ k => XS.lload X4.here hx rfl (hb hby at_57) rfl k) ?_
      show Gl p.tables e below PP (T4.setTop (mkF m 59 #[.val (.int p1), .val (.int p2), .val (.int p3), .val (.int (p2 &&& (3 : Int32))), .val (.int (p3.toInt8.toInt32)), .val (.ref b1), .val (.ref b2), .val (.long (own_u p1)), .second, .unset, .unset] [(.long (own_u p1))]))
      refine Gl.pre (fun _ k => X4.ldc2Long hx hown (mvT hZ (hw _ (List.mem_of_getElem? (i := 18) rfl))) (g := (mkF m 59 #[.val (.int p1), .val (.int p2), .val (.int p3), .val (.int (p2 &&& (3 : Int32))), .val (.int (p3.toInt8.toInt32)), .val (.ref b1), .val (.ref b2), .val (.long (own_u p1)), .second, .unset, .unset] [(.long (own_u p1))])) rfl (hb hby at_59) _ k) ?_
      show Gl p.tables e below PP (T4.setTop (mkF m 62 #[.val (.int p1), .val (.int p2), .val (.int p3), .val (.int (p2 &&& (3 : Int32))), .val (.int (p3.toInt8.toInt32)), .val (.ref b1), .val (.ref b2), .val (.long (own_u p1)), .second, .unset, .unset] [(.long (16384 : Int64)), (.long (own_u p1))]))
      refine Gl.pre (fun _ k => XS.lcmp X4.here hx rfl (hb hby at_62) rfl k) ?_
      show Gl p.tables e below PP (T4.setTop (mkF m 63 #[.val (.int p1), .val (.int p2), .val (.int p3), .val (.int (p2 &&& (3 : Int32))), .val (.int (p3.toInt8.toInt32)), .val (.ref b1), .val (.ref b2), .val (.long (own_u p1)), .second, .unset, .unset] [(.int (lcmpW (own_u p1) (16384 : Int64)))]))
      by_cases hc7 : (own_u p1) < (16384 : Int64)
      · refine Gl.pre (fun _ k => XS.ifNo X4.here hx rfl (hb hby at_63) rfl ((if0 _ _).trans (tlt ((lw_lt (own_u p1) (16384 : Int64)).mpr hc7)).2.1) k) ?_
        show Gl p.tables e below PP (T4.setTop (mkF m 66 #[.val (.int p1), .val (.int p2), .val (.int p3), .val (.int (p2 &&& (3 : Int32))), .val (.int (p3.toInt8.toInt32)), .val (.ref b1), .val (.ref b2), .val (.long (own_u p1)), .second, .unset, .unset] []))
        refine Gl.pre (fun _ k => XS.iconst X4.here hx rfl (hb hby at_66) k) ?_
        show Gl p.tables e below PP (T4.setTop (mkF m 67 #[.val (.int p1), .val (.int p2), .val (.int p3), .val (.int (p2 &&& (3 : Int32))), .val (.int (p3.toInt8.toInt32)), .val (.ref b1), .val (.ref b2), .val (.long (own_u p1)), .second, .unset, .unset] [(.int (2 : Int32))]))
        refine Gl.pre (fun _ k => XS.istore X4.here hx rfl (hb hby at_67) rfl (l' := #[.val (.int p1), .val (.int p2), .val (.int p3), .val (.int (p2 &&& (3 : Int32))), .val (.int (p3.toInt8.toInt32)), .val (.ref b1), .val (.ref b2), .val (.long (own_u p1)), .second, .val (.int (2 : Int32)), .unset]) rfl k) ?_
        show Gl p.tables e below PP (T4.setTop (mkF m 69 #[.val (.int p1), .val (.int p2), .val (.int p3), .val (.int (p2 &&& (3 : Int32))), .val (.int (p3.toInt8.toInt32)), .val (.ref b1), .val (.ref b2), .val (.long (own_u p1)), .second, .val (.int (2 : Int32)), .unset] []))
        refine Gl.pre (fun _ k => XS.goto X4.here hx rfl (pc0 := 69) (pc' := 105) rfl (hb hby at_69) (by decide) (by decide) k) ?_
        show Gl p.tables e below PP (T4.setTop (mkF m 105 #[.val (.int p1), .val (.int p2), .val (.int p3), .val (.int (p2 &&& (3 : Int32))), .val (.int (p3.toInt8.toInt32)), .val (.ref b1), .val (.ref b2), .val (.long (own_u p1)), .second, .val (.int (2 : Int32)), .unset] []))
        exact J5 _ (by unfold own_nq; rw [if_neg hc6, if_pos hc7])
      · refine Gl.pre (fun _ k => XS.ifYes X4.here hx rfl (pc0 := 63) (pc' := 72) rfl (hb hby at_63) rfl ((if0 _ _).trans (flt (mt (lw_lt (own_u p1) (16384 : Int64)).mp hc7)).2.1) (by decide) (by decide) k) ?_
        show Gl p.tables e below PP (T4.setTop (mkF m 72 #[.val (.int p1), .val (.int p2), .val (.int p3), .val (.int (p2 &&& (3 : Int32))), .val (.int (p3.toInt8.toInt32)), .val (.ref b1), .val (.ref b2), .val (.long (own_u p1)), .second, .unset, .unset] []))
        refine Gl.pre (fun _ k => XS.lload X4.here hx rfl (hb hby at_72) rfl k) ?_
        show Gl p.tables e below PP (T4.setTop (mkF m 74 #[.val (.int p1), .val (.int p2), .val (.int p3), .val (.int (p2 &&& (3 : Int32))), .val (.int (p3.toInt8.toInt32)), .val (.ref b1), .val (.ref b2), .val (.long (own_u p1)), .second, .unset, .unset] [(.long (own_u p1))]))
        refine Gl.pre (fun _ k => X4.ldc2Long hx hown (mvT hZ (hw _ (List.mem_of_getElem? (i := 19) rfl))) (g := (mkF m 74 #[.val (.int p1), .val (.int p2), .val (.int p3), .val (.int (p2 &&& (3 : Int32))), .val (.int (p3.toInt8.toInt32)), .val (.ref b1), .val (.ref b2), .val (.long (own_u p1)), .second, .unset, .unset] [(.long (own_u p1))])) rfl (hb hby at_74) _ k) ?_
        show Gl p.tables e below PP (T4.setTop (mkF m 77 #[.val (.int p1), .val (.int p2), .val (.int p3), .val (.int (p2 &&& (3 : Int32))), .val (.int (p3.toInt8.toInt32)), .val (.ref b1), .val (.ref b2), .val (.long (own_u p1)), .second, .unset, .unset] [(.long (2097152 : Int64)), (.long (own_u p1))]))
        refine Gl.pre (fun _ k => XS.lcmp X4.here hx rfl (hb hby at_77) rfl k) ?_
        show Gl p.tables e below PP (T4.setTop (mkF m 78 #[.val (.int p1), .val (.int p2), .val (.int p3), .val (.int (p2 &&& (3 : Int32))), .val (.int (p3.toInt8.toInt32)), .val (.ref b1), .val (.ref b2), .val (.long (own_u p1)), .second, .unset, .unset] [(.int (lcmpW (own_u p1) (2097152 : Int64)))]))
        by_cases hc8 : (own_u p1) < (2097152 : Int64)
        · refine Gl.pre (fun _ k => XS.ifNo X4.here hx rfl (hb hby at_78) rfl ((if0 _ _).trans (tlt ((lw_lt (own_u p1) (2097152 : Int64)).mpr hc8)).2.1) k) ?_
          show Gl p.tables e below PP (T4.setTop (mkF m 81 #[.val (.int p1), .val (.int p2), .val (.int p3), .val (.int (p2 &&& (3 : Int32))), .val (.int (p3.toInt8.toInt32)), .val (.ref b1), .val (.ref b2), .val (.long (own_u p1)), .second, .unset, .unset] []))
          refine Gl.pre (fun _ k => XS.iconst X4.here hx rfl (hb hby at_81) k) ?_
          show Gl p.tables e below PP (T4.setTop (mkF m 82 #[.val (.int p1), .val (.int p2), .val (.int p3), .val (.int (p2 &&& (3 : Int32))), .val (.int (p3.toInt8.toInt32)), .val (.ref b1), .val (.ref b2), .val (.long (own_u p1)), .second, .unset, .unset] [(.int (3 : Int32))]))
          refine Gl.pre (fun _ k => XS.istore X4.here hx rfl (hb hby at_82) rfl (l' := #[.val (.int p1), .val (.int p2), .val (.int p3), .val (.int (p2 &&& (3 : Int32))), .val (.int (p3.toInt8.toInt32)), .val (.ref b1), .val (.ref b2), .val (.long (own_u p1)), .second, .val (.int (3 : Int32)), .unset]) rfl k) ?_
          show Gl p.tables e below PP (T4.setTop (mkF m 84 #[.val (.int p1), .val (.int p2), .val (.int p3), .val (.int (p2 &&& (3 : Int32))), .val (.int (p3.toInt8.toInt32)), .val (.ref b1), .val (.ref b2), .val (.long (own_u p1)), .second, .val (.int (3 : Int32)), .unset] []))
          refine Gl.pre (fun _ k => XS.goto X4.here hx rfl (pc0 := 84) (pc' := 105) rfl (hb hby at_84) (by decide) (by decide) k) ?_
          show Gl p.tables e below PP (T4.setTop (mkF m 105 #[.val (.int p1), .val (.int p2), .val (.int p3), .val (.int (p2 &&& (3 : Int32))), .val (.int (p3.toInt8.toInt32)), .val (.ref b1), .val (.ref b2), .val (.long (own_u p1)), .second, .val (.int (3 : Int32)), .unset] []))
          exact J5 _ (by unfold own_nq; rw [if_neg hc6, if_neg hc7, if_pos hc8])
        · refine Gl.pre (fun _ k => XS.ifYes X4.here hx rfl (pc0 := 78) (pc' := 87) rfl (hb hby at_78) rfl ((if0 _ _).trans (flt (mt (lw_lt (own_u p1) (2097152 : Int64)).mp hc8)).2.1) (by decide) (by decide) k) ?_
          show Gl p.tables e below PP (T4.setTop (mkF m 87 #[.val (.int p1), .val (.int p2), .val (.int p3), .val (.int (p2 &&& (3 : Int32))), .val (.int (p3.toInt8.toInt32)), .val (.ref b1), .val (.ref b2), .val (.long (own_u p1)), .second, .unset, .unset] []))
          refine Gl.pre (fun _ k => XS.lload X4.here hx rfl (hb hby at_87) rfl k) ?_
          show Gl p.tables e below PP (T4.setTop (mkF m 89 #[.val (.int p1), .val (.int p2), .val (.int p3), .val (.int (p2 &&& (3 : Int32))), .val (.int (p3.toInt8.toInt32)), .val (.ref b1), .val (.ref b2), .val (.long (own_u p1)), .second, .unset, .unset] [(.long (own_u p1))]))
          refine Gl.pre (fun _ k => X4.ldc2Long hx hown (mvT hZ (hw _ (List.mem_of_getElem? (i := 20) rfl))) (g := (mkF m 89 #[.val (.int p1), .val (.int p2), .val (.int p3), .val (.int (p2 &&& (3 : Int32))), .val (.int (p3.toInt8.toInt32)), .val (.ref b1), .val (.ref b2), .val (.long (own_u p1)), .second, .unset, .unset] [(.long (own_u p1))])) rfl (hb hby at_89) _ k) ?_
          show Gl p.tables e below PP (T4.setTop (mkF m 92 #[.val (.int p1), .val (.int p2), .val (.int p3), .val (.int (p2 &&& (3 : Int32))), .val (.int (p3.toInt8.toInt32)), .val (.ref b1), .val (.ref b2), .val (.long (own_u p1)), .second, .unset, .unset] [(.long (268435456 : Int64)), (.long (own_u p1))]))
          refine Gl.pre (fun _ k => XS.lcmp X4.here hx rfl (hb hby at_92) rfl k) ?_
          show Gl p.tables e below PP (T4.setTop (mkF m 93 #[.val (.int p1), .val (.int p2), .val (.int p3), .val (.int (p2 &&& (3 : Int32))), .val (.int (p3.toInt8.toInt32)), .val (.ref b1), .val (.ref b2), .val (.long (own_u p1)), .second, .unset, .unset] [(.int (lcmpW (own_u p1) (268435456 : Int64)))]))
          by_cases hc9 : (own_u p1) < (268435456 : Int64)
          · refine Gl.pre (fun _ k => XS.ifNo X4.here hx rfl (hb hby at_93) rfl ((if0 _ _).trans (tlt ((lw_lt (own_u p1) (268435456 : Int64)).mpr hc9)).2.1) k) ?_
            show Gl p.tables e below PP (T4.setTop (mkF m 96 #[.val (.int p1), .val (.int p2), .val (.int p3), .val (.int (p2 &&& (3 : Int32))), .val (.int (p3.toInt8.toInt32)), .val (.ref b1), .val (.ref b2), .val (.long (own_u p1)), .second, .unset, .unset] []))
            refine Gl.pre (fun _ k => XS.iconst X4.here hx rfl (hb hby at_96) k) ?_
            show Gl p.tables e below PP (T4.setTop (mkF m 97 #[.val (.int p1), .val (.int p2), .val (.int p3), .val (.int (p2 &&& (3 : Int32))), .val (.int (p3.toInt8.toInt32)), .val (.ref b1), .val (.ref b2), .val (.long (own_u p1)), .second, .unset, .unset] [(.int (4 : Int32))]))
            refine Gl.pre (fun _ k => XS.istore X4.here hx rfl (hb hby at_97) rfl (l' := #[.val (.int p1), .val (.int p2), .val (.int p3), .val (.int (p2 &&& (3 : Int32))), .val (.int (p3.toInt8.toInt32)), .val (.ref b1), .val (.ref b2), .val (.long (own_u p1)), .second, .val (.int (4 : Int32)), .unset]) rfl k) ?_
            show Gl p.tables e below PP (T4.setTop (mkF m 99 #[.val (.int p1), .val (.int p2), .val (.int p3), .val (.int (p2 &&& (3 : Int32))), .val (.int (p3.toInt8.toInt32)), .val (.ref b1), .val (.ref b2), .val (.long (own_u p1)), .second, .val (.int (4 : Int32)), .unset] []))
            refine Gl.pre (fun _ k => XS.goto X4.here hx rfl (pc0 := 99) (pc' := 105) rfl (hb hby at_99) (by decide) (by decide) k) ?_
            show Gl p.tables e below PP (T4.setTop (mkF m 105 #[.val (.int p1), .val (.int p2), .val (.int p3), .val (.int (p2 &&& (3 : Int32))), .val (.int (p3.toInt8.toInt32)), .val (.ref b1), .val (.ref b2), .val (.long (own_u p1)), .second, .val (.int (4 : Int32)), .unset] []))
            exact J5 _ (by unfold own_nq; rw [if_neg hc6, if_neg hc7, if_neg hc8, if_pos hc9])
          · refine Gl.pre (fun _ k => XS.ifYes X4.here hx rfl (pc0 := 93) (pc' := 102) rfl (hb hby at_93) rfl ((if0 _ _).trans (flt (mt (lw_lt (own_u p1) (268435456 : Int64)).mp hc9)).2.1) (by decide) (by decide) k) ?_
            show Gl p.tables e below PP (T4.setTop (mkF m 102 #[.val (.int p1), .val (.int p2), .val (.int p3), .val (.int (p2 &&& (3 : Int32))), .val (.int (p3.toInt8.toInt32)), .val (.ref b1), .val (.ref b2), .val (.long (own_u p1)), .second, .unset, .unset] []))
            refine Gl.pre (fun _ k => XS.iconst X4.here hx rfl (hb hby at_102) k) ?_
            show Gl p.tables e below PP (T4.setTop (mkF m 103 #[.val (.int p1), .val (.int p2), .val (.int p3), .val (.int (p2 &&& (3 : Int32))), .val (.int (p3.toInt8.toInt32)), .val (.ref b1), .val (.ref b2), .val (.long (own_u p1)), .second, .unset, .unset] [(.int (5 : Int32))]))
            refine Gl.pre (fun _ k => XS.istore X4.here hx rfl (hb hby at_103) rfl (l' := #[.val (.int p1), .val (.int p2), .val (.int p3), .val (.int (p2 &&& (3 : Int32))), .val (.int (p3.toInt8.toInt32)), .val (.ref b1), .val (.ref b2), .val (.long (own_u p1)), .second, .val (.int (5 : Int32)), .unset]) rfl k) ?_
            show Gl p.tables e below PP (T4.setTop (mkF m 105 #[.val (.int p1), .val (.int p2), .val (.int p3), .val (.int (p2 &&& (3 : Int32))), .val (.int (p3.toInt8.toInt32)), .val (.ref b1), .val (.ref b2), .val (.long (own_u p1)), .second, .val (.int (5 : Int32)), .unset] []))
            exact J5 _ (by unfold own_nq; rw [if_neg hc6, if_neg hc7, if_neg hc8, if_neg hc9])
  intro n9 hn9
  show Gl p.tables e below PP (T4.setTop (mkF m 105 #[.val (.int p1), .val (.int p2), .val (.int p3), .val (.int (p2 &&& (3 : Int32))), .val (.int (p3.toInt8.toInt32)), .val (.ref b1), .val (.ref b2), .val (.long (own_u p1)), .second, .val (.int n9), .unset] []))
  refine Gl.pre (fun _ k => XS.aload X4.here hx rfl (hb hby at_105) rfl rfl k) ?_
  show Gl p.tables e below PP (T4.setTop (mkF m 107 #[.val (.int p1), .val (.int p2), .val (.int p3), .val (.int (p2 &&& (3 : Int32))), .val (.int (p3.toInt8.toInt32)), .val (.ref b1), .val (.ref b2), .val (.long (own_u p1)), .second, .val (.int n9), .unset] [(.ref b2)]))
  refine Gl.pre (fun _ k => XS.iloadN X4.here hx rfl (hb hby at_107) rfl k) ?_
  show Gl p.tables e below PP (T4.setTop (mkF m 108 #[.val (.int p1), .val (.int p2), .val (.int p3), .val (.int (p2 &&& (3 : Int32))), .val (.int (p3.toInt8.toInt32)), .val (.ref b1), .val (.ref b2), .val (.long (own_u p1)), .second, .val (.int n9), .unset] [(.int (p2 &&& (3 : Int32))), (.ref b2)]))
  refine Gl.pre (fun _ k => XS.iconst X4.here hx rfl (hb hby at_108) k) ?_
  show Gl p.tables e below PP (T4.setTop (mkF m 109 #[.val (.int p1), .val (.int p2), .val (.int p3), .val (.int (p2 &&& (3 : Int32))), .val (.int (p3.toInt8.toInt32)), .val (.ref b1), .val (.ref b2), .val (.long (own_u p1)), .second, .val (.int n9), .unset] [(.int (0 : Int32)), (.int (p2 &&& (3 : Int32))), (.ref b2)]))
  refine Gl.pre (fun _ k => XS.lload X4.here hx rfl (hb hby at_109) rfl k) ?_
  show Gl p.tables e below PP (T4.setTop (mkF m 111 #[.val (.int p1), .val (.int p2), .val (.int p3), .val (.int (p2 &&& (3 : Int32))), .val (.int (p3.toInt8.toInt32)), .val (.ref b1), .val (.ref b2), .val (.long (own_u p1)), .second, .val (.int n9), .unset] [(.long (own_u p1)), (.int (0 : Int32)), (.int (p2 &&& (3 : Int32))), (.ref b2)]))
  refine Gl.pre (fun _ k => XS.iload X4.here hx rfl (hb hby at_111) rfl k) ?_
  show Gl p.tables e below PP (T4.setTop (mkF m 113 #[.val (.int p1), .val (.int p2), .val (.int p3), .val (.int (p2 &&& (3 : Int32))), .val (.int (p3.toInt8.toInt32)), .val (.ref b1), .val (.ref b2), .val (.long (own_u p1)), .second, .val (.int n9), .unset] [(.int n9), (.long (own_u p1)), (.int (0 : Int32)), (.int (p2 &&& (3 : Int32))), (.ref b2)]))
  obtain ⟨_, _, ⟨T10, L10, k10, n10⟩, -, X10, ⟨Lc10, hQ10, l10, y10, z10⟩, st10⟩ := Jvm.LawKit.callS X4 hx (y := (⟨"io/heapwire/FrameOutputPutVarintPinLaw", "put", "([BIIJI)V"⟩ : MethodName)) hown (mvT hZ (hw _ (List.mem_of_getElem? (i := 7) rfl))) (mvT hZ (hw _ (List.mem_of_getElem? (i := 8) rfl))) (mvT hZ (hw _ (List.mem_of_getElem? (i := 3) rfl))) (mvT hZ (hw _ (List.mem_of_getElem? (i := 9) rfl))) (by decide) (backOf (W := 0) (rm2 l Z a0 hw [] b2 (p2 &&& (3 : Int32)) (0 : Int32) (own_u p1) n9 (own_fl (p3.toInt8.toInt32)) T4.heap n0 Z4 V_b2 g_b2 (by rcases own_at p2 with q | q | q | q <;> rw [q] <;> decide) (by simp only [own_put_len, own_fl, List.length_cons, List.length_nil]; rcases own_at p2 with q | q | q | q <;> rw [q] <;> decide)) hZ (hw _ (List.mem_of_getElem? (i := 9) rfl)) (hw _ (List.mem_of_getElem? (i := 3) rfl)) (by decide) (by decide)) (g := (mkF m 113 #[.val (.int p1), .val (.int p2), .val (.int p3), .val (.int (p2 &&& (3 : Int32))), .val (.int (p3.toInt8.toInt32)), .val (.ref b1), .val (.ref b2), .val (.long (own_u p1)), .second, .val (.int n9), .unset] [(.int n9), (.long (own_u p1)), (.int (0 : Int32)), (.int (p2 &&& (3 : Int32))), (.ref b2)])) rfl (by rw [hml]; rfl) (argsL := [(.ref b2), (.int (p2 &&& (3 : Int32))), (.int (0 : Int32)), (.long (own_u p1)), (.int n9)]) (rest := []) (lenOf pd_1 rfl) rfl (by show 2 * 0 + _ ≤ _; exact Nat.le_of_eq rfl) (hb hby at_113) (fun _ _ => ⟨rfl, rfl, (by decide : 2 + 0 ≤ _), (by decide : 18 + 0 ≤ _)⟩)
  dsimp only [Pt.U, Pt.locs, Pt.cells, Pt.slots] at X10 l10 y10 z10 st10 hQ10
  subst l10 y10 z10
  obtain ⟨rfl, N10q, K10, V10q⟩ := hQ10
  have N10 := Fr.app N4 N10q
  refine Gl.pre (fun _ k => st10 _ k) ?_
  have V_b1 := V_b1.keep K10 (ninS (own_ne_b1_b2) nin0)
  have Z10 : n0 ≤ T10.heap.size := Nat.le_trans Z4 K10.1
  have V_b2 := V10q
  show Gl p.tables e below PP (T10.setTop (mkF m 116 #[.val (.int p1), .val (.int p2), .val (.int p3), .val (.int (p2 &&& (3 : Int32))), .val (.int (p3.toInt8.toInt32)), .val (.ref b1), .val (.ref b2), .val (.long (own_u p1)), .second, .val (.int n9), .unset] []))
  refine Gl.pre (fun _ k => XS.aload X10.here hx rfl (hb hby at_116) rfl rfl k) ?_
  show Gl p.tables e below PP (T10.setTop (mkF m 118 #[.val (.int p1), .val (.int p2), .val (.int p3), .val (.int (p2 &&& (3 : Int32))), .val (.int (p3.toInt8.toInt32)), .val (.ref b1), .val (.ref b2), .val (.long (own_u p1)), .second, .val (.int n9), .unset] [(.ref b2)]))
  refine Gl.pre (fun _ k => XS.iloadN X10.here hx rfl (hb hby at_118) rfl k) ?_
  show Gl p.tables e below PP (T10.setTop (mkF m 119 #[.val (.int p1), .val (.int p2), .val (.int p3), .val (.int (p2 &&& (3 : Int32))), .val (.int (p3.toInt8.toInt32)), .val (.ref b1), .val (.ref b2), .val (.long (own_u p1)), .second, .val (.int n9), .unset] [(.int (p2 &&& (3 : Int32))), (.ref b2)]))
  refine Gl.pre (fun _ k => XS.iconst X10.here hx rfl (hb hby at_119) k) ?_
  show Gl p.tables e below PP (T10.setTop (mkF m 120 #[.val (.int p1), .val (.int p2), .val (.int p3), .val (.int (p2 &&& (3 : Int32))), .val (.int (p3.toInt8.toInt32)), .val (.ref b1), .val (.ref b2), .val (.long (own_u p1)), .second, .val (.int n9), .unset] [(.int (1 : Int32)), (.int (p2 &&& (3 : Int32))), (.ref b2)]))
  refine Gl.pre (fun _ k => XS.lload X10.here hx rfl (hb hby at_120) rfl k) ?_
  show Gl p.tables e below PP (T10.setTop (mkF m 122 #[.val (.int p1), .val (.int p2), .val (.int p3), .val (.int (p2 &&& (3 : Int32))), .val (.int (p3.toInt8.toInt32)), .val (.ref b1), .val (.ref b2), .val (.long (own_u p1)), .second, .val (.int n9), .unset] [(.long (own_u p1)), (.int (1 : Int32)), (.int (p2 &&& (3 : Int32))), (.ref b2)]))
  refine Gl.pre (fun _ k => XS.iload X10.here hx rfl (hb hby at_122) rfl k) ?_
  show Gl p.tables e below PP (T10.setTop (mkF m 124 #[.val (.int p1), .val (.int p2), .val (.int p3), .val (.int (p2 &&& (3 : Int32))), .val (.int (p3.toInt8.toInt32)), .val (.ref b1), .val (.ref b2), .val (.long (own_u p1)), .second, .val (.int n9), .unset] [(.int n9), (.long (own_u p1)), (.int (1 : Int32)), (.int (p2 &&& (3 : Int32))), (.ref b2)]))
  obtain ⟨_, _, ⟨T11, L11, k11, n11⟩, -, X11, ⟨Lc11, hQ11, l11, y11, z11⟩, st11⟩ := Jvm.LawKit.callS X10 hx (y := (⟨"io/heapwire/FrameOutputPutVarintPinLaw", "put", "([BIIJI)V"⟩ : MethodName)) hown (mvT hZ (hw _ (List.mem_of_getElem? (i := 7) rfl))) (mvT hZ (hw _ (List.mem_of_getElem? (i := 8) rfl))) (mvT hZ (hw _ (List.mem_of_getElem? (i := 3) rfl))) (mvT hZ (hw _ (List.mem_of_getElem? (i := 9) rfl))) (by decide) (backOf (W := 0) (rm2 l Z a0 hw [] b2 (p2 &&& (3 : Int32)) (1 : Int32) (own_u p1) n9 (own_put (own_fl (p3.toInt8.toInt32)) (p2 &&& (3 : Int32)) (0 : Int32) (own_u p1) n9) T10.heap n0 Z10 V_b2 g_b2 (by rcases own_at p2 with q | q | q | q <;> rw [q] <;> decide) (by simp only [own_put_len, own_fl, List.length_cons, List.length_nil]; rcases own_at p2 with q | q | q | q <;> rw [q] <;> decide)) hZ (hw _ (List.mem_of_getElem? (i := 9) rfl)) (hw _ (List.mem_of_getElem? (i := 3) rfl)) (by decide) (by decide)) (g := (mkF m 124 #[.val (.int p1), .val (.int p2), .val (.int p3), .val (.int (p2 &&& (3 : Int32))), .val (.int (p3.toInt8.toInt32)), .val (.ref b1), .val (.ref b2), .val (.long (own_u p1)), .second, .val (.int n9), .unset] [(.int n9), (.long (own_u p1)), (.int (1 : Int32)), (.int (p2 &&& (3 : Int32))), (.ref b2)])) rfl (by rw [hml]; rfl) (argsL := [(.ref b2), (.int (p2 &&& (3 : Int32))), (.int (1 : Int32)), (.long (own_u p1)), (.int n9)]) (rest := []) (lenOf pd_1 rfl) rfl (by show 2 * 0 + _ ≤ _; exact Nat.le_of_eq rfl) (hb hby at_124) (fun _ _ => ⟨rfl, rfl, (by decide : 2 + 0 ≤ _), (by decide : 18 + 0 ≤ _)⟩)
  dsimp only [Pt.U, Pt.locs, Pt.cells, Pt.slots] at X11 l11 y11 z11 st11 hQ11
  subst l11 y11 z11
  obtain ⟨rfl, N11q, K11, V11q⟩ := hQ11
  have N11 := Fr.app N10 N11q
  refine Gl.pre (fun _ k => st11 _ k) ?_
  have V_b1 := V_b1.keep K11 (ninS (own_ne_b1_b2) nin0)
  have Z11 : n0 ≤ T11.heap.size := Nat.le_trans Z10 K11.1
  have V_b2 := V11q
  show Gl p.tables e below PP (T11.setTop (mkF m 127 #[.val (.int p1), .val (.int p2), .val (.int p3), .val (.int (p2 &&& (3 : Int32))), .val (.int (p3.toInt8.toInt32)), .val (.ref b1), .val (.ref b2), .val (.long (own_u p1)), .second, .val (.int n9), .unset] []))
  refine Gl.pre (fun _ k => XS.aload X11.here hx rfl (hb hby at_127) rfl rfl k) ?_
  show Gl p.tables e below PP (T11.setTop (mkF m 129 #[.val (.int p1), .val (.int p2), .val (.int p3), .val (.int (p2 &&& (3 : Int32))), .val (.int (p3.toInt8.toInt32)), .val (.ref b1), .val (.ref b2), .val (.long (own_u p1)), .second, .val (.int n9), .unset] [(.ref b2)]))
  refine Gl.pre (fun _ k => XS.iloadN X11.here hx rfl (hb hby at_129) rfl k) ?_
  show Gl p.tables e below PP (T11.setTop (mkF m 130 #[.val (.int p1), .val (.int p2), .val (.int p3), .val (.int (p2 &&& (3 : Int32))), .val (.int (p3.toInt8.toInt32)), .val (.ref b1), .val (.ref b2), .val (.long (own_u p1)), .second, .val (.int n9), .unset] [(.int (p2 &&& (3 : Int32))), (.ref b2)]))
  refine Gl.pre (fun _ k => XS.iconst X11.here hx rfl (hb hby at_130) k) ?_
  show Gl p.tables e below PP (T11.setTop (mkF m 131 #[.val (.int p1), .val (.int p2), .val (.int p3), .val (.int (p2 &&& (3 : Int32))), .val (.int (p3.toInt8.toInt32)), .val (.ref b1), .val (.ref b2), .val (.long (own_u p1)), .second, .val (.int n9), .unset] [(.int (2 : Int32)), (.int (p2 &&& (3 : Int32))), (.ref b2)]))
  refine Gl.pre (fun _ k => XS.lload X11.here hx rfl (hb hby at_131) rfl k) ?_
  show Gl p.tables e below PP (T11.setTop (mkF m 133 #[.val (.int p1), .val (.int p2), .val (.int p3), .val (.int (p2 &&& (3 : Int32))), .val (.int (p3.toInt8.toInt32)), .val (.ref b1), .val (.ref b2), .val (.long (own_u p1)), .second, .val (.int n9), .unset] [(.long (own_u p1)), (.int (2 : Int32)), (.int (p2 &&& (3 : Int32))), (.ref b2)]))
  refine Gl.pre (fun _ k => XS.iload X11.here hx rfl (hb hby at_133) rfl k) ?_
  show Gl p.tables e below PP (T11.setTop (mkF m 135 #[.val (.int p1), .val (.int p2), .val (.int p3), .val (.int (p2 &&& (3 : Int32))), .val (.int (p3.toInt8.toInt32)), .val (.ref b1), .val (.ref b2), .val (.long (own_u p1)), .second, .val (.int n9), .unset] [(.int n9), (.long (own_u p1)), (.int (2 : Int32)), (.int (p2 &&& (3 : Int32))), (.ref b2)]))
  obtain ⟨_, _, ⟨T12, L12, k12, n12⟩, -, X12, ⟨Lc12, hQ12, l12, y12, z12⟩, st12⟩ := Jvm.LawKit.callS X11 hx (y := (⟨"io/heapwire/FrameOutputPutVarintPinLaw", "put", "([BIIJI)V"⟩ : MethodName)) hown (mvT hZ (hw _ (List.mem_of_getElem? (i := 7) rfl))) (mvT hZ (hw _ (List.mem_of_getElem? (i := 8) rfl))) (mvT hZ (hw _ (List.mem_of_getElem? (i := 3) rfl))) (mvT hZ (hw _ (List.mem_of_getElem? (i := 9) rfl))) (by decide) (backOf (W := 0) (rm2 l Z a0 hw [] b2 (p2 &&& (3 : Int32)) (2 : Int32) (own_u p1) n9 (own_put (own_put (own_fl (p3.toInt8.toInt32)) (p2 &&& (3 : Int32)) (0 : Int32) (own_u p1) n9) (p2 &&& (3 : Int32)) (1 : Int32) (own_u p1) n9) T11.heap n0 Z11 V_b2 g_b2 (by rcases own_at p2 with q | q | q | q <;> rw [q] <;> decide) (by simp only [own_put_len, own_fl, List.length_cons, List.length_nil]; rcases own_at p2 with q | q | q | q <;> rw [q] <;> decide)) hZ (hw _ (List.mem_of_getElem? (i := 9) rfl)) (hw _ (List.mem_of_getElem? (i := 3) rfl)) (by decide) (by decide)) (g := (mkF m 135 #[.val (.int p1), .val (.int p2), .val (.int p3), .val (.int (p2 &&& (3 : Int32))), .val (.int (p3.toInt8.toInt32)), .val (.ref b1), .val (.ref b2), .val (.long (own_u p1)), .second, .val (.int n9), .unset] [(.int n9), (.long (own_u p1)), (.int (2 : Int32)), (.int (p2 &&& (3 : Int32))), (.ref b2)])) rfl (by rw [hml]; rfl) (argsL := [(.ref b2), (.int (p2 &&& (3 : Int32))), (.int (2 : Int32)), (.long (own_u p1)), (.int n9)]) (rest := []) (lenOf pd_1 rfl) rfl (by show 2 * 0 + _ ≤ _; exact Nat.le_of_eq rfl) (hb hby at_135) (fun _ _ => ⟨rfl, rfl, (by decide : 2 + 0 ≤ _), (by decide : 18 + 0 ≤ _)⟩)
  dsimp only [Pt.U, Pt.locs, Pt.cells, Pt.slots] at X12 l12 y12 z12 st12 hQ12
  subst l12 y12 z12
  obtain ⟨rfl, N12q, K12, V12q⟩ := hQ12
  have N12 := Fr.app N11 N12q
  refine Gl.pre (fun _ k => st12 _ k) ?_
  have V_b1 := V_b1.keep K12 (ninS (own_ne_b1_b2) nin0)
  have Z12 : n0 ≤ T12.heap.size := Nat.le_trans Z11 K12.1
  have V_b2 := V12q
  show Gl p.tables e below PP (T12.setTop (mkF m 138 #[.val (.int p1), .val (.int p2), .val (.int p3), .val (.int (p2 &&& (3 : Int32))), .val (.int (p3.toInt8.toInt32)), .val (.ref b1), .val (.ref b2), .val (.long (own_u p1)), .second, .val (.int n9), .unset] []))
  refine Gl.pre (fun _ k => XS.aload X12.here hx rfl (hb hby at_138) rfl rfl k) ?_
  show Gl p.tables e below PP (T12.setTop (mkF m 140 #[.val (.int p1), .val (.int p2), .val (.int p3), .val (.int (p2 &&& (3 : Int32))), .val (.int (p3.toInt8.toInt32)), .val (.ref b1), .val (.ref b2), .val (.long (own_u p1)), .second, .val (.int n9), .unset] [(.ref b2)]))
  refine Gl.pre (fun _ k => XS.iloadN X12.here hx rfl (hb hby at_140) rfl k) ?_
  show Gl p.tables e below PP (T12.setTop (mkF m 141 #[.val (.int p1), .val (.int p2), .val (.int p3), .val (.int (p2 &&& (3 : Int32))), .val (.int (p3.toInt8.toInt32)), .val (.ref b1), .val (.ref b2), .val (.long (own_u p1)), .second, .val (.int n9), .unset] [(.int (p2 &&& (3 : Int32))), (.ref b2)]))
  refine Gl.pre (fun _ k => XS.iconst X12.here hx rfl (hb hby at_141) k) ?_
  show Gl p.tables e below PP (T12.setTop (mkF m 142 #[.val (.int p1), .val (.int p2), .val (.int p3), .val (.int (p2 &&& (3 : Int32))), .val (.int (p3.toInt8.toInt32)), .val (.ref b1), .val (.ref b2), .val (.long (own_u p1)), .second, .val (.int n9), .unset] [(.int (3 : Int32)), (.int (p2 &&& (3 : Int32))), (.ref b2)]))
  refine Gl.pre (fun _ k => XS.lload X12.here hx rfl (hb hby at_142) rfl k) ?_
  show Gl p.tables e below PP (T12.setTop (mkF m 144 #[.val (.int p1), .val (.int p2), .val (.int p3), .val (.int (p2 &&& (3 : Int32))), .val (.int (p3.toInt8.toInt32)), .val (.ref b1), .val (.ref b2), .val (.long (own_u p1)), .second, .val (.int n9), .unset] [(.long (own_u p1)), (.int (3 : Int32)), (.int (p2 &&& (3 : Int32))), (.ref b2)]))
  refine Gl.pre (fun _ k => XS.iload X12.here hx rfl (hb hby at_144) rfl k) ?_
  show Gl p.tables e below PP (T12.setTop (mkF m 146 #[.val (.int p1), .val (.int p2), .val (.int p3), .val (.int (p2 &&& (3 : Int32))), .val (.int (p3.toInt8.toInt32)), .val (.ref b1), .val (.ref b2), .val (.long (own_u p1)), .second, .val (.int n9), .unset] [(.int n9), (.long (own_u p1)), (.int (3 : Int32)), (.int (p2 &&& (3 : Int32))), (.ref b2)]))
  obtain ⟨_, _, ⟨T13, L13, k13, n13⟩, -, X13, ⟨Lc13, hQ13, l13, y13, z13⟩, st13⟩ := Jvm.LawKit.callS X12 hx (y := (⟨"io/heapwire/FrameOutputPutVarintPinLaw", "put", "([BIIJI)V"⟩ : MethodName)) hown (mvT hZ (hw _ (List.mem_of_getElem? (i := 7) rfl))) (mvT hZ (hw _ (List.mem_of_getElem? (i := 8) rfl))) (mvT hZ (hw _ (List.mem_of_getElem? (i := 3) rfl))) (mvT hZ (hw _ (List.mem_of_getElem? (i := 9) rfl))) (by decide) (backOf (W := 0) (rm2 l Z a0 hw [] b2 (p2 &&& (3 : Int32)) (3 : Int32) (own_u p1) n9 (own_put (own_put (own_put (own_fl (p3.toInt8.toInt32)) (p2 &&& (3 : Int32)) (0 : Int32) (own_u p1) n9) (p2 &&& (3 : Int32)) (1 : Int32) (own_u p1) n9) (p2 &&& (3 : Int32)) (2 : Int32) (own_u p1) n9) T12.heap n0 Z12 V_b2 g_b2 (by rcases own_at p2 with q | q | q | q <;> rw [q] <;> decide) (by simp only [own_put_len, own_fl, List.length_cons, List.length_nil]; rcases own_at p2 with q | q | q | q <;> rw [q] <;> decide)) hZ (hw _ (List.mem_of_getElem? (i := 9) rfl)) (hw _ (List.mem_of_getElem? (i := 3) rfl)) (by decide) (by decide)) (g := (mkF m 146 #[.val (.int p1), .val (.int p2), .val (.int p3), .val (.int (p2 &&& (3 : Int32))), .val (.int (p3.toInt8.toInt32)), .val (.ref b1), .val (.ref b2), .val (.long (own_u p1)), .second, .val (.int n9), .unset] [(.int n9), (.long (own_u p1)), (.int (3 : Int32)), (.int (p2 &&& (3 : Int32))), (.ref b2)])) rfl (by rw [hml]; rfl) (argsL := [(.ref b2), (.int (p2 &&& (3 : Int32))), (.int (3 : Int32)), (.long (own_u p1)), (.int n9)]) (rest := []) (lenOf pd_1 rfl) rfl (by show 2 * 0 + _ ≤ _; exact Nat.le_of_eq rfl) (hb hby at_146) (fun _ _ => ⟨rfl, rfl, (by decide : 2 + 0 ≤ _), (by decide : 18 + 0 ≤ _)⟩)
  dsimp only [Pt.U, Pt.locs, Pt.cells, Pt.slots] at X13 l13 y13 z13 st13 hQ13
  subst l13 y13 z13
  obtain ⟨rfl, N13q, K13, V13q⟩ := hQ13
  have N13 := Fr.app N12 N13q
  refine Gl.pre (fun _ k => st13 _ k) ?_
  have V_b1 := V_b1.keep K13 (ninS (own_ne_b1_b2) nin0)
  have Z13 : n0 ≤ T13.heap.size := Nat.le_trans Z12 K13.1
  have V_b2 := V13q
  show Gl p.tables e below PP (T13.setTop (mkF m 149 #[.val (.int p1), .val (.int p2), .val (.int p3), .val (.int (p2 &&& (3 : Int32))), .val (.int (p3.toInt8.toInt32)), .val (.ref b1), .val (.ref b2), .val (.long (own_u p1)), .second, .val (.int n9), .unset] []))
  refine Gl.pre (fun _ k => XS.aload X13.here hx rfl (hb hby at_149) rfl rfl k) ?_
  show Gl p.tables e below PP (T13.setTop (mkF m 151 #[.val (.int p1), .val (.int p2), .val (.int p3), .val (.int (p2 &&& (3 : Int32))), .val (.int (p3.toInt8.toInt32)), .val (.ref b1), .val (.ref b2), .val (.long (own_u p1)), .second, .val (.int n9), .unset] [(.ref b2)]))
  refine Gl.pre (fun _ k => XS.iloadN X13.here hx rfl (hb hby at_151) rfl k) ?_
  show Gl p.tables e below PP (T13.setTop (mkF m 152 #[.val (.int p1), .val (.int p2), .val (.int p3), .val (.int (p2 &&& (3 : Int32))), .val (.int (p3.toInt8.toInt32)), .val (.ref b1), .val (.ref b2), .val (.long (own_u p1)), .second, .val (.int n9), .unset] [(.int (p2 &&& (3 : Int32))), (.ref b2)]))
  refine Gl.pre (fun _ k => XS.iconst X13.here hx rfl (hb hby at_152) k) ?_
  show Gl p.tables e below PP (T13.setTop (mkF m 153 #[.val (.int p1), .val (.int p2), .val (.int p3), .val (.int (p2 &&& (3 : Int32))), .val (.int (p3.toInt8.toInt32)), .val (.ref b1), .val (.ref b2), .val (.long (own_u p1)), .second, .val (.int n9), .unset] [(.int (4 : Int32)), (.int (p2 &&& (3 : Int32))), (.ref b2)]))
  refine Gl.pre (fun _ k => XS.lload X13.here hx rfl (hb hby at_153) rfl k) ?_
  show Gl p.tables e below PP (T13.setTop (mkF m 155 #[.val (.int p1), .val (.int p2), .val (.int p3), .val (.int (p2 &&& (3 : Int32))), .val (.int (p3.toInt8.toInt32)), .val (.ref b1), .val (.ref b2), .val (.long (own_u p1)), .second, .val (.int n9), .unset] [(.long (own_u p1)), (.int (4 : Int32)), (.int (p2 &&& (3 : Int32))), (.ref b2)]))
  refine Gl.pre (fun _ k => XS.iload X13.here hx rfl (hb hby at_155) rfl k) ?_
  show Gl p.tables e below PP (T13.setTop (mkF m 157 #[.val (.int p1), .val (.int p2), .val (.int p3), .val (.int (p2 &&& (3 : Int32))), .val (.int (p3.toInt8.toInt32)), .val (.ref b1), .val (.ref b2), .val (.long (own_u p1)), .second, .val (.int n9), .unset] [(.int n9), (.long (own_u p1)), (.int (4 : Int32)), (.int (p2 &&& (3 : Int32))), (.ref b2)]))
  obtain ⟨_, _, ⟨T14, L14, k14, n14⟩, -, X14, ⟨Lc14, hQ14, l14, y14, z14⟩, st14⟩ := Jvm.LawKit.callS X13 hx (y := (⟨"io/heapwire/FrameOutputPutVarintPinLaw", "put", "([BIIJI)V"⟩ : MethodName)) hown (mvT hZ (hw _ (List.mem_of_getElem? (i := 7) rfl))) (mvT hZ (hw _ (List.mem_of_getElem? (i := 8) rfl))) (mvT hZ (hw _ (List.mem_of_getElem? (i := 3) rfl))) (mvT hZ (hw _ (List.mem_of_getElem? (i := 9) rfl))) (by decide) (backOf (W := 0) (rm2 l Z a0 hw [] b2 (p2 &&& (3 : Int32)) (4 : Int32) (own_u p1) n9 (own_put (own_put (own_put (own_put (own_fl (p3.toInt8.toInt32)) (p2 &&& (3 : Int32)) (0 : Int32) (own_u p1) n9) (p2 &&& (3 : Int32)) (1 : Int32) (own_u p1) n9) (p2 &&& (3 : Int32)) (2 : Int32) (own_u p1) n9) (p2 &&& (3 : Int32)) (3 : Int32) (own_u p1) n9) T13.heap n0 Z13 V_b2 g_b2 (by rcases own_at p2 with q | q | q | q <;> rw [q] <;> decide) (by simp only [own_put_len, own_fl, List.length_cons, List.length_nil]; rcases own_at p2 with q | q | q | q <;> rw [q] <;> decide)) hZ (hw _ (List.mem_of_getElem? (i := 9) rfl)) (hw _ (List.mem_of_getElem? (i := 3) rfl)) (by decide) (by decide)) (g := (mkF m 157 #[.val (.int p1), .val (.int p2), .val (.int p3), .val (.int (p2 &&& (3 : Int32))), .val (.int (p3.toInt8.toInt32)), .val (.ref b1), .val (.ref b2), .val (.long (own_u p1)), .second, .val (.int n9), .unset] [(.int n9), (.long (own_u p1)), (.int (4 : Int32)), (.int (p2 &&& (3 : Int32))), (.ref b2)])) rfl (by rw [hml]; rfl) (argsL := [(.ref b2), (.int (p2 &&& (3 : Int32))), (.int (4 : Int32)), (.long (own_u p1)), (.int n9)]) (rest := []) (lenOf pd_1 rfl) rfl (by show 2 * 0 + _ ≤ _; exact Nat.le_of_eq rfl) (hb hby at_157) (fun _ _ => ⟨rfl, rfl, (by decide : 2 + 0 ≤ _), (by decide : 18 + 0 ≤ _)⟩)
  dsimp only [Pt.U, Pt.locs, Pt.cells, Pt.slots] at X14 l14 y14 z14 st14 hQ14
  subst l14 y14 z14
  obtain ⟨rfl, N14q, K14, V14q⟩ := hQ14
  have N14 := Fr.app N13 N14q
  refine Gl.pre (fun _ k => st14 _ k) ?_
  have V_b1 := V_b1.keep K14 (ninS (own_ne_b1_b2) nin0)
  have Z14 : n0 ≤ T14.heap.size := Nat.le_trans Z13 K14.1
  have V_b2 := V14q
  show Gl p.tables e below PP (T14.setTop (mkF m 160 #[.val (.int p1), .val (.int p2), .val (.int p3), .val (.int (p2 &&& (3 : Int32))), .val (.int (p3.toInt8.toInt32)), .val (.ref b1), .val (.ref b2), .val (.long (own_u p1)), .second, .val (.int n9), .unset] []))
  refine Gl.pre (fun _ k => XS.aload X14.here hx rfl (hb hby at_160) rfl rfl k) ?_
  show Gl p.tables e below PP (T14.setTop (mkF m 162 #[.val (.int p1), .val (.int p2), .val (.int p3), .val (.int (p2 &&& (3 : Int32))), .val (.int (p3.toInt8.toInt32)), .val (.ref b1), .val (.ref b2), .val (.long (own_u p1)), .second, .val (.int n9), .unset] [(.ref b1)]))
  refine Gl.pre (fun _ k => XS.iloadN X14.here hx rfl (hb hby at_162) rfl k) ?_
  show Gl p.tables e below PP (T14.setTop (mkF m 163 #[.val (.int p1), .val (.int p2), .val (.int p3), .val (.int (p2 &&& (3 : Int32))), .val (.int (p3.toInt8.toInt32)), .val (.ref b1), .val (.ref b2), .val (.long (own_u p1)), .second, .val (.int n9), .unset] [(.int (p2 &&& (3 : Int32))), (.ref b1)]))
  refine Gl.pre (fun _ k => XS.iloadN X14.here hx rfl (hb hby at_163) rfl k) ?_
  show Gl p.tables e below PP (T14.setTop (mkF m 164 #[.val (.int p1), .val (.int p2), .val (.int p3), .val (.int (p2 &&& (3 : Int32))), .val (.int (p3.toInt8.toInt32)), .val (.ref b1), .val (.ref b2), .val (.long (own_u p1)), .second, .val (.int n9), .unset] [(.int p1), (.int (p2 &&& (3 : Int32))), (.ref b1)]))
  obtain ⟨_, _, ⟨T15, L15, k15, n15⟩, -, X15, ⟨Lc15, hQ15, l15, y15, z15⟩, st15⟩ := Jvm.LawKit.callS X14 hx (y := (⟨"io/heapwire/FrameOutput", "putVarint", "([BII)I"⟩ : MethodName)) hown (mvT hZ (hw _ (List.mem_of_getElem? (i := 11) rfl))) (mvT hZ (hw _ (List.mem_of_getElem? (i := 12) rfl))) (mvT hZ (hw _ (List.mem_of_getElem? (i := 13) rfl))) (mvT hZ (hw _ (List.mem_of_getElem? (i := 14) rfl))) (by decide) (backOf (W := 0) (rm3 l Z a0 hw [] b1 (p2 &&& (3 : Int32)) p1 (own_fl (p3.toInt8.toInt32)) T14.heap n0 Z14 V_b1 g_b1 (own_at p2) rfl) hZ (hw _ (List.mem_of_getElem? (i := 14) rfl)) (hw _ (List.mem_of_getElem? (i := 13) rfl)) (by decide) (by decide)) (g := (mkF m 164 #[.val (.int p1), .val (.int p2), .val (.int p3), .val (.int (p2 &&& (3 : Int32))), .val (.int (p3.toInt8.toInt32)), .val (.ref b1), .val (.ref b2), .val (.long (own_u p1)), .second, .val (.int n9), .unset] [(.int p1), (.int (p2 &&& (3 : Int32))), (.ref b1)])) rfl (by rw [hml]; rfl) (argsL := [(.ref b1), (.int (p2 &&& (3 : Int32))), (.int p1)]) (rest := []) (lenOf pd_2 rfl) rfl (by show 2 * 0 + _ ≤ _; exact Nat.le_of_eq rfl) (hb hby at_164) (fun _ _ => ⟨rfl, rfl, (by decide : 2 + 0 ≤ _), (by decide : 18 + 0 ≤ _)⟩)
  dsimp only [Pt.U, Pt.locs, Pt.cells, Pt.slots] at X15 l15 y15 z15 st15 hQ15
  subst l15 y15 z15
  obtain ⟨rfl, N15q, K15, V15q⟩ := hQ15
  have N15 := Fr.app N14 N15q
  refine Gl.pre (fun _ k => st15 _ k) ?_
  have V_b2 := V_b2.keep K15 (ninS (own_ne_b2_b1) nin0)
  have Z15 : n0 ≤ T15.heap.size := Nat.le_trans Z14 K15.1
  have V_b1 := V15q
  show Gl p.tables e below PP (T15.setTop (mkF m 167 #[.val (.int p1), .val (.int p2), .val (.int p3), .val (.int (p2 &&& (3 : Int32))), .val (.int (p3.toInt8.toInt32)), .val (.ref b1), .val (.ref b2), .val (.long (own_u p1)), .second, .val (.int n9), .unset] [(.int (own_vr (p2 &&& (3 : Int32)) p1))]))
  refine Gl.pre (fun _ k => XS.istore X15.here hx rfl (hb hby at_167) rfl (l' := #[.val (.int p1), .val (.int p2), .val (.int p3), .val (.int (p2 &&& (3 : Int32))), .val (.int (p3.toInt8.toInt32)), .val (.ref b1), .val (.ref b2), .val (.long (own_u p1)), .second, .val (.int n9), .val (.int (own_vr (p2 &&& (3 : Int32)) p1))]) rfl k) ?_
  show Gl p.tables e below PP (T15.setTop (mkF m 169 #[.val (.int p1), .val (.int p2), .val (.int p3), .val (.int (p2 &&& (3 : Int32))), .val (.int (p3.toInt8.toInt32)), .val (.ref b1), .val (.ref b2), .val (.long (own_u p1)), .second, .val (.int n9), .val (.int (own_vr (p2 &&& (3 : Int32)) p1))] []))
  refine Gl.pre (fun _ k => XS.iload X15.here hx rfl (hb hby at_169) rfl k) ?_
  show Gl p.tables e below PP (T15.setTop (mkF m 171 #[.val (.int p1), .val (.int p2), .val (.int p3), .val (.int (p2 &&& (3 : Int32))), .val (.int (p3.toInt8.toInt32)), .val (.ref b1), .val (.ref b2), .val (.long (own_u p1)), .second, .val (.int n9), .val (.int (own_vr (p2 &&& (3 : Int32)) p1))] [(.int (own_vr (p2 &&& (3 : Int32)) p1))]))
  refine Gl.pre (fun _ k => XS.iloadN X15.here hx rfl (hb hby at_171) rfl k) ?_
  show Gl p.tables e below PP (T15.setTop (mkF m 172 #[.val (.int p1), .val (.int p2), .val (.int p3), .val (.int (p2 &&& (3 : Int32))), .val (.int (p3.toInt8.toInt32)), .val (.ref b1), .val (.ref b2), .val (.long (own_u p1)), .second, .val (.int n9), .val (.int (own_vr (p2 &&& (3 : Int32)) p1))] [(.int (p2 &&& (3 : Int32))), (.int (own_vr (p2 &&& (3 : Int32)) p1))]))
  refine Gl.pre (fun _ k => XS.iload X15.here hx rfl (hb hby at_172) rfl k) ?_
  show Gl p.tables e below PP (T15.setTop (mkF m 174 #[.val (.int p1), .val (.int p2), .val (.int p3), .val (.int (p2 &&& (3 : Int32))), .val (.int (p3.toInt8.toInt32)), .val (.ref b1), .val (.ref b2), .val (.long (own_u p1)), .second, .val (.int n9), .val (.int (own_vr (p2 &&& (3 : Int32)) p1))] [(.int n9), (.int (p2 &&& (3 : Int32))), (.int (own_vr (p2 &&& (3 : Int32)) p1))]))
  refine Gl.pre (fun _ k => XS.iadd X15.here hx rfl (hb hby at_174) rfl k) ?_
  show Gl p.tables e below PP (T15.setTop (mkF m 175 #[.val (.int p1), .val (.int p2), .val (.int p3), .val (.int (p2 &&& (3 : Int32))), .val (.int (p3.toInt8.toInt32)), .val (.ref b1), .val (.ref b2), .val (.long (own_u p1)), .second, .val (.int n9), .val (.int (own_vr (p2 &&& (3 : Int32)) p1))] [(.int ((p2 &&& (3 : Int32)) + n9)), (.int (own_vr (p2 &&& (3 : Int32)) p1))]))
  refine Gl.pre (fun _ k => XS.icmpYes X15.here hx rfl (pc0 := 175) (pc' := 180) rfl (hb hby at_175) rfl (teq (show (own_vr (p2 &&& (3 : Int32)) p1) = ((p2 &&& (3 : Int32)) + n9) from (own_final p1 (p2 &&& (3 : Int32)) (p3.toInt8.toInt32) n9 (own_at p2) hn9).1)).1 (by decide) (by decide) k) ?_
  show Gl p.tables e below PP (T15.setTop (mkF m 180 #[.val (.int p1), .val (.int p2), .val (.int p3), .val (.int (p2 &&& (3 : Int32))), .val (.int (p3.toInt8.toInt32)), .val (.ref b1), .val (.ref b2), .val (.long (own_u p1)), .second, .val (.int n9), .val (.int (own_vr (p2 &&& (3 : Int32)) p1))] []))
  refine Gl.pre (fun _ k => XS.aload X15.here hx rfl (hb hby at_180) rfl rfl k) ?_
  show Gl p.tables e below PP (T15.setTop (mkF m 182 #[.val (.int p1), .val (.int p2), .val (.int p3), .val (.int (p2 &&& (3 : Int32))), .val (.int (p3.toInt8.toInt32)), .val (.ref b1), .val (.ref b2), .val (.long (own_u p1)), .second, .val (.int n9), .val (.int (own_vr (p2 &&& (3 : Int32)) p1))] [(.ref b1)]))
  refine Gl.pre (fun _ k => XS.aload X15.here hx rfl (hb hby at_182) rfl rfl k) ?_
  show Gl p.tables e below PP (T15.setTop (mkF m 184 #[.val (.int p1), .val (.int p2), .val (.int p3), .val (.int (p2 &&& (3 : Int32))), .val (.int (p3.toInt8.toInt32)), .val (.ref b1), .val (.ref b2), .val (.long (own_u p1)), .second, .val (.int n9), .val (.int (own_vr (p2 &&& (3 : Int32)) p1))] [(.ref b2), (.ref b1)]))
  have hfin := own_final p1 (p2 &&& (3 : Int32)) (p3.toInt8.toInt32) n9 (own_at p2) hn9
  obtain ⟨_, _, ⟨T16, L16, k16, n16⟩, -, X16, ⟨Lc16, hQ16, l16, y16, z16⟩, st16⟩ := Jvm.LawKit.callS X15 hx (y := (⟨"io/heapwire/FrameOutputPutVarintPinLaw", "same9", "([B[B)Z"⟩ : MethodName)) hown (mvT hZ (hw _ (List.mem_of_getElem? (i := 15) rfl))) (mvT hZ (hw _ (List.mem_of_getElem? (i := 16) rfl))) (mvT hZ (hw _ (List.mem_of_getElem? (i := 3) rfl))) (mvT hZ (hw _ (List.mem_of_getElem? (i := 17) rfl))) (by decide) (backOf (W := 0) (rm4 l Z a0 hw [] b1 b2 (own_vl (own_fl (p3.toInt8.toInt32)) (p2 &&& (3 : Int32)) p1) (own_put (own_put (own_put (own_put (own_put (own_fl (p3.toInt8.toInt32)) (p2 &&& (3 : Int32)) (0 : Int32) (own_u p1) n9) (p2 &&& (3 : Int32)) (1 : Int32) (own_u p1) n9) (p2 &&& (3 : Int32)) (2 : Int32) (own_u p1) n9) (p2 &&& (3 : Int32)) (3 : Int32) (own_u p1) n9) (p2 &&& (3 : Int32)) (4 : Int32) (own_u p1) n9) T15.heap n0 Z15 V_b1 V_b2 (by rw [hfin.2]; simp only [own_put_len, own_fl, List.length_cons, List.length_nil]) (by simp only [own_put_len, own_fl, List.length_cons, List.length_nil])) hZ (hw _ (List.mem_of_getElem? (i := 17) rfl)) (hw _ (List.mem_of_getElem? (i := 3) rfl)) (by decide) (by decide)) (g := (mkF m 184 #[.val (.int p1), .val (.int p2), .val (.int p3), .val (.int (p2 &&& (3 : Int32))), .val (.int (p3.toInt8.toInt32)), .val (.ref b1), .val (.ref b2), .val (.long (own_u p1)), .second, .val (.int n9), .val (.int (own_vr (p2 &&& (3 : Int32)) p1))] [(.ref b2), (.ref b1)])) rfl (by rw [hml]; rfl) (argsL := [(.ref b1), (.ref b2)]) (rest := []) (lenOf pd_3 rfl) rfl (by show 2 * 0 + _ ≤ _; exact Nat.le_of_eq rfl) (hb hby at_184) (fun _ _ => ⟨rfl, rfl, (by decide : 2 + 0 ≤ _), (by decide : 18 + 0 ≤ _)⟩)
  dsimp only [Pt.U, Pt.locs, Pt.cells, Pt.slots] at X16 l16 y16 z16 st16 hQ16
  subst l16 y16 z16
  obtain ⟨rfl, N16q, e16⟩ := hQ16
  have N16 := Fr.app N15 N16q
  refine Gl.pre (fun _ k => st16 _ k) ?_
  show Gl p.tables e below PP (T16.setTop (mkF m 187 #[.val (.int p1), .val (.int p2), .val (.int p3), .val (.int (p2 &&& (3 : Int32))), .val (.int (p3.toInt8.toInt32)), .val (.ref b1), .val (.ref b2), .val (.long (own_u p1)), .second, .val (.int n9), .val (.int (own_vr (p2 &&& (3 : Int32)) p1))] [(.int (own_pi ((own_vl (own_fl (p3.toInt8.toInt32)) (p2 &&& (3 : Int32)) p1).getD 0 0 = (own_put (own_put (own_put (own_put (own_put (own_fl (p3.toInt8.toInt32)) (p2 &&& (3 : Int32)) (0 : Int32) (own_u p1) n9) (p2 &&& (3 : Int32)) (1 : Int32) (own_u p1) n9) (p2 &&& (3 : Int32)) (2 : Int32) (own_u p1) n9) (p2 &&& (3 : Int32)) (3 : Int32) (own_u p1) n9) (p2 &&& (3 : Int32)) (4 : Int32) (own_u p1) n9).getD 0 0 ∧ (own_vl (own_fl (p3.toInt8.toInt32)) (p2 &&& (3 : Int32)) p1).getD 1 0 = (own_put (own_put (own_put (own_put (own_put (own_fl (p3.toInt8.toInt32)) (p2 &&& (3 : Int32)) (0 : Int32) (own_u p1) n9) (p2 &&& (3 : Int32)) (1 : Int32) (own_u p1) n9) (p2 &&& (3 : Int32)) (2 : Int32) (own_u p1) n9) (p2 &&& (3 : Int32)) (3 : Int32) (own_u p1) n9) (p2 &&& (3 : Int32)) (4 : Int32) (own_u p1) n9).getD 1 0 ∧ (own_vl (own_fl (p3.toInt8.toInt32)) (p2 &&& (3 : Int32)) p1).getD 2 0 = (own_put (own_put (own_put (own_put (own_put (own_fl (p3.toInt8.toInt32)) (p2 &&& (3 : Int32)) (0 : Int32) (own_u p1) n9) (p2 &&& (3 : Int32)) (1 : Int32) (own_u p1) n9) (p2 &&& (3 : Int32)) (2 : Int32) (own_u p1) n9) (p2 &&& (3 : Int32)) (3 : Int32) (own_u p1) n9) (p2 &&& (3 : Int32)) (4 : Int32) (own_u p1) n9).getD 2 0 ∧ (own_vl (own_fl (p3.toInt8.toInt32)) (p2 &&& (3 : Int32)) p1).getD 3 0 = (own_put (own_put (own_put (own_put (own_put (own_fl (p3.toInt8.toInt32)) (p2 &&& (3 : Int32)) (0 : Int32) (own_u p1) n9) (p2 &&& (3 : Int32)) (1 : Int32) (own_u p1) n9) (p2 &&& (3 : Int32)) (2 : Int32) (own_u p1) n9) (p2 &&& (3 : Int32)) (3 : Int32) (own_u p1) n9) (p2 &&& (3 : Int32)) (4 : Int32) (own_u p1) n9).getD 3 0 ∧ (own_vl (own_fl (p3.toInt8.toInt32)) (p2 &&& (3 : Int32)) p1).getD 4 0 = (own_put (own_put (own_put (own_put (own_put (own_fl (p3.toInt8.toInt32)) (p2 &&& (3 : Int32)) (0 : Int32) (own_u p1) n9) (p2 &&& (3 : Int32)) (1 : Int32) (own_u p1) n9) (p2 &&& (3 : Int32)) (2 : Int32) (own_u p1) n9) (p2 &&& (3 : Int32)) (3 : Int32) (own_u p1) n9) (p2 &&& (3 : Int32)) (4 : Int32) (own_u p1) n9).getD 4 0 ∧ (own_vl (own_fl (p3.toInt8.toInt32)) (p2 &&& (3 : Int32)) p1).getD 5 0 = (own_put (own_put (own_put (own_put (own_put (own_fl (p3.toInt8.toInt32)) (p2 &&& (3 : Int32)) (0 : Int32) (own_u p1) n9) (p2 &&& (3 : Int32)) (1 : Int32) (own_u p1) n9) (p2 &&& (3 : Int32)) (2 : Int32) (own_u p1) n9) (p2 &&& (3 : Int32)) (3 : Int32) (own_u p1) n9) (p2 &&& (3 : Int32)) (4 : Int32) (own_u p1) n9).getD 5 0 ∧ (own_vl (own_fl (p3.toInt8.toInt32)) (p2 &&& (3 : Int32)) p1).getD 6 0 = (own_put (own_put (own_put (own_put (own_put (own_fl (p3.toInt8.toInt32)) (p2 &&& (3 : Int32)) (0 : Int32) (own_u p1) n9) (p2 &&& (3 : Int32)) (1 : Int32) (own_u p1) n9) (p2 &&& (3 : Int32)) (2 : Int32) (own_u p1) n9) (p2 &&& (3 : Int32)) (3 : Int32) (own_u p1) n9) (p2 &&& (3 : Int32)) (4 : Int32) (own_u p1) n9).getD 6 0 ∧ (own_vl (own_fl (p3.toInt8.toInt32)) (p2 &&& (3 : Int32)) p1).getD 7 0 = (own_put (own_put (own_put (own_put (own_put (own_fl (p3.toInt8.toInt32)) (p2 &&& (3 : Int32)) (0 : Int32) (own_u p1) n9) (p2 &&& (3 : Int32)) (1 : Int32) (own_u p1) n9) (p2 &&& (3 : Int32)) (2 : Int32) (own_u p1) n9) (p2 &&& (3 : Int32)) (3 : Int32) (own_u p1) n9) (p2 &&& (3 : Int32)) (4 : Int32) (own_u p1) n9).getD 7 0 ∧ (own_vl (own_fl (p3.toInt8.toInt32)) (p2 &&& (3 : Int32)) p1).getD 8 0 = (own_put (own_put (own_put (own_put (own_put (own_fl (p3.toInt8.toInt32)) (p2 &&& (3 : Int32)) (0 : Int32) (own_u p1) n9) (p2 &&& (3 : Int32)) (1 : Int32) (own_u p1) n9) (p2 &&& (3 : Int32)) (2 : Int32) (own_u p1) n9) (p2 &&& (3 : Int32)) (3 : Int32) (own_u p1) n9) (p2 &&& (3 : Int32)) (4 : Int32) (own_u p1) n9).getD 8 0)))]))
  rw [hPP]
  refine own_finN (Q := (Q0 Z p1 p2 p3 h0 n0)) X16 hx hlk Bd.returns (t := .boolean) (z' := (own_pi ((own_vl (own_fl (p3.toInt8.toInt32)) (p2 &&& (3 : Int32)) p1).getD 0 0 = (own_put (own_put (own_put (own_put (own_put (own_fl (p3.toInt8.toInt32)) (p2 &&& (3 : Int32)) (0 : Int32) (own_u p1) n9) (p2 &&& (3 : Int32)) (1 : Int32) (own_u p1) n9) (p2 &&& (3 : Int32)) (2 : Int32) (own_u p1) n9) (p2 &&& (3 : Int32)) (3 : Int32) (own_u p1) n9) (p2 &&& (3 : Int32)) (4 : Int32) (own_u p1) n9).getD 0 0 ∧ (own_vl (own_fl (p3.toInt8.toInt32)) (p2 &&& (3 : Int32)) p1).getD 1 0 = (own_put (own_put (own_put (own_put (own_put (own_fl (p3.toInt8.toInt32)) (p2 &&& (3 : Int32)) (0 : Int32) (own_u p1) n9) (p2 &&& (3 : Int32)) (1 : Int32) (own_u p1) n9) (p2 &&& (3 : Int32)) (2 : Int32) (own_u p1) n9) (p2 &&& (3 : Int32)) (3 : Int32) (own_u p1) n9) (p2 &&& (3 : Int32)) (4 : Int32) (own_u p1) n9).getD 1 0 ∧ (own_vl (own_fl (p3.toInt8.toInt32)) (p2 &&& (3 : Int32)) p1).getD 2 0 = (own_put (own_put (own_put (own_put (own_put (own_fl (p3.toInt8.toInt32)) (p2 &&& (3 : Int32)) (0 : Int32) (own_u p1) n9) (p2 &&& (3 : Int32)) (1 : Int32) (own_u p1) n9) (p2 &&& (3 : Int32)) (2 : Int32) (own_u p1) n9) (p2 &&& (3 : Int32)) (3 : Int32) (own_u p1) n9) (p2 &&& (3 : Int32)) (4 : Int32) (own_u p1) n9).getD 2 0 ∧ (own_vl (own_fl (p3.toInt8.toInt32)) (p2 &&& (3 : Int32)) p1).getD 3 0 = (own_put (own_put (own_put (own_put (own_put (own_fl (p3.toInt8.toInt32)) (p2 &&& (3 : Int32)) (0 : Int32) (own_u p1) n9) (p2 &&& (3 : Int32)) (1 : Int32) (own_u p1) n9) (p2 &&& (3 : Int32)) (2 : Int32) (own_u p1) n9) (p2 &&& (3 : Int32)) (3 : Int32) (own_u p1) n9) (p2 &&& (3 : Int32)) (4 : Int32) (own_u p1) n9).getD 3 0 ∧ (own_vl (own_fl (p3.toInt8.toInt32)) (p2 &&& (3 : Int32)) p1).getD 4 0 = (own_put (own_put (own_put (own_put (own_put (own_fl (p3.toInt8.toInt32)) (p2 &&& (3 : Int32)) (0 : Int32) (own_u p1) n9) (p2 &&& (3 : Int32)) (1 : Int32) (own_u p1) n9) (p2 &&& (3 : Int32)) (2 : Int32) (own_u p1) n9) (p2 &&& (3 : Int32)) (3 : Int32) (own_u p1) n9) (p2 &&& (3 : Int32)) (4 : Int32) (own_u p1) n9).getD 4 0 ∧ (own_vl (own_fl (p3.toInt8.toInt32)) (p2 &&& (3 : Int32)) p1).getD 5 0 = (own_put (own_put (own_put (own_put (own_put (own_fl (p3.toInt8.toInt32)) (p2 &&& (3 : Int32)) (0 : Int32) (own_u p1) n9) (p2 &&& (3 : Int32)) (1 : Int32) (own_u p1) n9) (p2 &&& (3 : Int32)) (2 : Int32) (own_u p1) n9) (p2 &&& (3 : Int32)) (3 : Int32) (own_u p1) n9) (p2 &&& (3 : Int32)) (4 : Int32) (own_u p1) n9).getD 5 0 ∧ (own_vl (own_fl (p3.toInt8.toInt32)) (p2 &&& (3 : Int32)) p1).getD 6 0 = (own_put (own_put (own_put (own_put (own_put (own_fl (p3.toInt8.toInt32)) (p2 &&& (3 : Int32)) (0 : Int32) (own_u p1) n9) (p2 &&& (3 : Int32)) (1 : Int32) (own_u p1) n9) (p2 &&& (3 : Int32)) (2 : Int32) (own_u p1) n9) (p2 &&& (3 : Int32)) (3 : Int32) (own_u p1) n9) (p2 &&& (3 : Int32)) (4 : Int32) (own_u p1) n9).getD 6 0 ∧ (own_vl (own_fl (p3.toInt8.toInt32)) (p2 &&& (3 : Int32)) p1).getD 7 0 = (own_put (own_put (own_put (own_put (own_put (own_fl (p3.toInt8.toInt32)) (p2 &&& (3 : Int32)) (0 : Int32) (own_u p1) n9) (p2 &&& (3 : Int32)) (1 : Int32) (own_u p1) n9) (p2 &&& (3 : Int32)) (2 : Int32) (own_u p1) n9) (p2 &&& (3 : Int32)) (3 : Int32) (own_u p1) n9) (p2 &&& (3 : Int32)) (4 : Int32) (own_u p1) n9).getD 7 0 ∧ (own_vl (own_fl (p3.toInt8.toInt32)) (p2 &&& (3 : Int32)) p1).getD 8 0 = (own_put (own_put (own_put (own_put (own_put (own_fl (p3.toInt8.toInt32)) (p2 &&& (3 : Int32)) (0 : Int32) (own_u p1) n9) (p2 &&& (3 : Int32)) (1 : Int32) (own_u p1) n9) (p2 &&& (3 : Int32)) (2 : Int32) (own_u p1) n9) (p2 &&& (3 : Int32)) (3 : Int32) (own_u p1) n9) (p2 &&& (3 : Int32)) (4 : Int32) (own_u p1) n9).getD 8 0))) (by simp) own_nar_pi (hb hby at_187) ?_ (by decide) (by decide)
  show Q0 Z p1 p2 p3 h0 n0 _ T16.heap _
  rw [e16]
  refine ⟨?_, N16⟩
  rw [own_pi_t (by rw [hfin.2]; exact ⟨rfl, rfl, rfl, rfl, rfl, rfl, rfl, rfl, rfl⟩)]
set_option maxRecDepth 65536 in
set_option maxHeartbeats 40000000 in
theorem comes_1 {Post : Tables → Env → Array Value → State → Outcome → State → Prop} (hpost : ∀ tb e args s v u, (limb_1_1.after args s (.returned v) u = true ∧ limb_1_2.after args s (.returned v) u = true ∧ True) → FrameEnd s (.returned v) u (Jvm.fieldLocs frame_1_writes args s ++ Jvm.arrayLocs frame_1_arrays args s ++ Jvm.staticLocs frame_1_statics s) 16 128 → Post tb e args s (.returned v) u) :
    ArmFor flags0 classFile x code maxLocals ret World_1 tables_1 room_1 Calls_1 rest_1 Pre_1 Post := by
  intro l hfl _ _ p e ha hc hk s m args below hf hA hF happ hP
  obtain ⟨hcalls, hrest, hpre⟩ := hP
  obtain ⟨-, -, -, hnamed, -, -, -, hat⟩ := (Spec.applies_iff hf).mp happ
  obtain ⟨hg, hn⟩ := and_e (Cond.before_iff.mp (show (Jvm.Cond.and given_1 narrow_1).before args s = true from hpre))
  obtain ⟨gc, gr0⟩ := and_e hg
  obtain ⟨ga0, gr1⟩ := and_e gr0
  obtain ⟨ga1, gr2⟩ := and_e gr1
  obtain ⟨w0, w1, w2, rfl⟩ : ∃ w0 w1 w2 : Value, args = #[w0, w1, w2] := by
    have hs : args.size = 3 := by simpa [Cond.value, given_1] using gc
    obtain ⟨L⟩ := args
    match L, hs with
    | [w0, w1, w2], _ => exact ⟨w0, w1, w2, rfl⟩
  have hw := fun d (hd : d ∈ tables_1) => atoms_spec (ws := Jvm.Cond.code x code maxLocals ret :: tables_1) hat d (List.mem_cons_of_mem _ hd)
  have hfit : Fit s := fun {y c} hc i hi => by
    obtain ⟨ha, rfl⟩ := Array.getElem?_eq_some_iff.mp hc
    have q := List.all_eq_true.mp ((Array.all_eq_true_iff_forall_mem.mp hF) _ (Array.getElem_mem ha)) i (List.mem_range.mpr hi)
    simpa [Array.getElem?_eq_getElem hi] using q
  obtain ⟨i0, ei0⟩ := is_v ga0
  obtain rfl : w0 = (.int i0) := Option.some.inj ei0
  obtain ⟨i1, ei1⟩ := is_v ga1
  obtain rfl : w1 = (.int i1) := Option.some.inj ei1
  obtain ⟨i2, ei2⟩ := is_v gr2
  obtain rfl : w2 = (.int i2) := Option.some.inj ei2
  obtain ⟨n, o, h1, h2, h3, _, L, rfl, ⟨rfl, N⟩, hq⟩ := rm0 l s _ hw tables_1 i0 i1 i2  s.heap s.heap.size (Nat.le_refl _)  p e ha hc hk s m _ below hf ((Spec.applies_iff_loose hf).mp happ).1 ⟨rfl, State.Warmed39.refl s, rfl⟩ trivial
  refine ⟨n, _, h1, h2, h3, hpost _ _ _ _ _ _ ⟨Cond.after_iff.mpr rfl, Cond.after_iff.mpr (eq_i res_at (Term.int_eval (1)) rfl), trivial⟩ ⟨hq.1, hq.2.1, (hq.2.2.sift fun y hy => Or.inr (N y hy)).mono (by decide) (by decide)⟩⟩
theorem main_1_1 : Claimed_1_1 := comes_1 fun _ _ _ _ _ _ h hF => ⟨h.1, hF⟩
theorem main_1_2 : Claimed_1_2 := comes_1 fun _ _ _ _ _ _ h hF => ⟨h.2.1, hF⟩
end Jvm.Pilot.@@N@@
namespace Jvm.Pilot.@@N@@
open Jvm Jvm.ClassFile Sem Op Lib Jvm.Free Jvm.Stand Jvm.Pilot.@@N@@.Jvm.D
/-! MADE BY PROGRAM (witnessworld.py) out of the Statement's table words and the real class files: 9 classes; the members and pool entries that the words name. The judged class is class 1, her method 1. -/
namespace start1
open Jvm.ClassFile
def u (s : String) : CpInfo := .utf8 (stringToUtf16 s)
/-- a pool by its gaps: so many unusable entries, then the entry; so many at the end -/
def gap : Nat → List CpInfo → List CpInfo
  | 0, r => r
  | n + 1, r => .unusable :: gap n r
def poolList (es : List (Nat × CpInfo)) (last : Nat) : List CpInfo := es.foldr (fun e r => gap e.1 (e.2 :: r)) (gap last [])
def pool (es : List (Nat × CpInfo)) (last : Nat) : Array CpInfo := ⟨poolList es last⟩
def fileOf (pool : Array CpInfo) (this : Nat) (attrs : Array Attribute := #[]) (ms : Array MethodInfo := #[]) (fl : Nat := 33) (sup : Nat := 0) (ifs : Array Nat := #[]) (fds : Array FieldInfo := #[]) : ClassFile where
  minorVersion := 0
  majorVersion := 65
  constantPool := pool
  accessFlags := fl
  thisClass := this
  superClass := sup
  interfaces := ifs
  fields := fds
  methods := ms
  attributes := attrs
def plain (name : String) (sup : Option ClassId) : Class where
  name := name
  kind := .ordinary
  loader := none
  accessFlags := 33
  super := sup
  interfaces := #[]
  cf := none
  fields := #[]
  methods := #[]
  instanceTypes := #[]
  staticTypes := #[]
  resolved := #[]
  callSites := []
  init := .initialized
  statics := none
  mirror := none

def pool0 : Array CpInfo := pool [(5, u "<init>"), (0, u "()V"), (1, .class_ 10), (1, u "java/lang/Object")] 113

def k0m0 : Method := { name := "<init>", desc := "()V", sig := { parameters := [], returnType := none }, accessFlags := 1, code := none }
/-- java/lang/Object -/
def k0 : Class := { plain "java/lang/Object" none with
  accessFlags := 33
  interfaces := #[]
  cf := some (fileOf pool0 8 #[] #[{ accessFlags := 1, nameIndex := 5, descriptorIndex := 6, attributes := #[] }] 33 0 #[] #[])
  fields := #[]
  methods := #[k0m0]
  instanceTypes := #[]
  staticTypes := #[]
  resolved := Array.replicate 124 none
  statics := none }

def pool1 : Array CpInfo := pool [(2, .class_ 4), (1, u "java/lang/Object"), (0, u "<init>"), (0, u "()V"), (0, .methodref 8 9), (0, .class_ 10), (0, .nameAndType 11 12), (0, u "io/heapwire/FrameOutputPutVarintPinLaw"), (0, u "fill9"), (0, u "([BB)V"), (0, .long 4294967295), (1, .long 128), (1, .long 16384), (1, .long 2097152), (1, .long 268435456), (1, .methodref 8 24), (0, .nameAndType 25 26), (0, u "put"), (0, u "([BIIJI)V"), (0, .methodref 28 29), (0, .class_ 30), (0, .nameAndType 31 32), (0, u "io/heapwire/FrameOutput"), (0, u "putVarint"), (0, u "([BII)I"), (0, .methodref 8 34), (0, .nameAndType 35 36), (0, u "same9"), (0, u "([B[B)Z"), (0, .long 127), (3, u "law"), (0, u "(III)Z")] 5

def k1m0 : Method := { name := "<init>", desc := "()V", sig := { parameters := [], returnType := none }, accessFlags := 1, code := none }
def k1c1 : Code := { maxStack := 6, maxLocals := 11, code := code, exceptionTable := #[], attributes := #[] }
def k1m1 : Method := { name := "law", desc := "(III)Z", sig := { parameters := [.int, .int, .int], returnType := some .boolean }, accessFlags := 9, code := some k1c1 }
def k1c2 : Code := { maxStack := 5, maxLocals := 7, code := method_3_code, exceptionTable := #[], attributes := #[] }
def k1m2 : Method := { name := "put", desc := "([BIIJI)V", sig := { parameters := [(.array .byte), .int, .int, .long, .int], returnType := none }, accessFlags := 10, code := some k1c2 }
def k1c3 : Code := { maxStack := 3, maxLocals := 2, code := method_4_code, exceptionTable := #[], attributes := #[] }
def k1m3 : Method := { name := "fill9", desc := "([BB)V", sig := { parameters := [(.array .byte), .byte], returnType := none }, accessFlags := 10, code := some k1c3 }
def k1c4 : Code := { maxStack := 3, maxLocals := 2, code := method_5_code, exceptionTable := #[], attributes := #[] }
def k1m4 : Method := { name := "same9", desc := "([B[B)Z", sig := { parameters := [(.array .byte), (.array .byte)], returnType := some .boolean }, accessFlags := 10, code := some k1c4 }
/-- io/heapwire/FrameOutputPutVarintPinLaw -/
def k1 : Class := { plain "io/heapwire/FrameOutputPutVarintPinLaw" (some 0) with
  accessFlags := 49
  interfaces := #[]
  cf := some (fileOf pool1 8 #[] #[{ accessFlags := 1, nameIndex := 5, descriptorIndex := 6, attributes := #[] }, { accessFlags := 9, nameIndex := 41, descriptorIndex := 42, attributes := #[] }, { accessFlags := 10, nameIndex := 25, descriptorIndex := 26, attributes := #[] }, { accessFlags := 10, nameIndex := 11, descriptorIndex := 12, attributes := #[] }, { accessFlags := 10, nameIndex := 35, descriptorIndex := 36, attributes := #[] }] 49 2 #[] #[])
  fields := #[]
  methods := #[k1m0, k1m1, k1m2, k1m3, k1m4]
  instanceTypes := #[]
  staticTypes := #[]
  resolved := Array.replicate 48 none
  statics := none }

def pool2 : Array CpInfo := pool [(2, .class_ 4), (1, u "java/lang/Object"), (0, u "<init>"), (0, u "()V"), (2, .class_ 10), (0, u "io/heapwire/FrameOutput"), (5, u "spare"), (0, u "Lio/heapwire/SpareRoom;"), (11, u "idle"), (0, u "Lio/heapwire/IdleRoom;"), (5, u "own"), (0, u "[B"), (6, u "inOwn"), (0, u "Z"), (2, u "bytes"), (12, u "ownHeld"), (2, u "position"), (0, u "I"), (2, u "start"), (42, u "putVarint"), (0, u "([BII)I"), (117, u "INITIAL_CAPACITY")] 56

def k2m0 : Method := { name := "<init>", desc := "()V", sig := { parameters := [], returnType := none }, accessFlags := 0, code := none }
def k2c1 : Code := { maxStack := 4, maxLocals := 5, code := prog_30_method_11_code, exceptionTable := #[], attributes := #[] }
def k2m1 : Method := { name := "putVarint", desc := "([BII)I", sig := { parameters := [(.array .byte), .int, .int], returnType := some .int }, accessFlags := 8, code := some k2c1 }
/-- io/heapwire/FrameOutput -/
def k2 : Class := { plain "io/heapwire/FrameOutput" (some 0) with
  accessFlags := 48
  interfaces := #[]
  cf := some (fileOf pool2 9 #[] #[{ accessFlags := 0, nameIndex := 5, descriptorIndex := 6, attributes := #[] }, { accessFlags := 8, nameIndex := 111, descriptorIndex := 112, attributes := #[] }] 48 2 #[] #[{ accessFlags := 26, nameIndex := 230, descriptorIndex := 65, attributes := #[] }, { accessFlags := 0, nameIndex := 48, descriptorIndex := 37, attributes := #[] }, { accessFlags := 0, nameIndex := 68, descriptorIndex := 65, attributes := #[] }, { accessFlags := 0, nameIndex := 64, descriptorIndex := 65, attributes := #[] }, { accessFlags := 2, nameIndex := 36, descriptorIndex := 37, attributes := #[] }, { accessFlags := 2, nameIndex := 44, descriptorIndex := 45, attributes := #[] }, { accessFlags := 18, nameIndex := 16, descriptorIndex := 17, attributes := #[] }, { accessFlags := 18, nameIndex := 29, descriptorIndex := 30, attributes := #[] }, { accessFlags := 2, nameIndex := 61, descriptorIndex := 45, attributes := #[] }])
  fields := #[{ name := "INITIAL_CAPACITY", type := .int, accessFlags := 26, slot := 0, constantValue := 0 }, { name := "bytes", type := (.array .byte), accessFlags := 0, slot := 0, constantValue := 0 }, { name := "start", type := .int, accessFlags := 0, slot := 1, constantValue := 0 }, { name := "position", type := .int, accessFlags := 0, slot := 2, constantValue := 0 }, { name := "own", type := (.array .byte), accessFlags := 2, slot := 3, constantValue := 0 }, { name := "inOwn", type := .boolean, accessFlags := 2, slot := 4, constantValue := 0 }, { name := "spare", type := (.object "io/heapwire/SpareRoom"), accessFlags := 18, slot := 5, constantValue := 0 }, { name := "idle", type := (.object "io/heapwire/IdleRoom"), accessFlags := 18, slot := 6, constantValue := 0 }, { name := "ownHeld", type := .boolean, accessFlags := 2, slot := 7, constantValue := 0 }]
  methods := #[k2m0, k2m1]
  instanceTypes := #[(.array .byte), .int, .int, (.array .byte), .boolean, (.object "io/heapwire/SpareRoom"), (.object "io/heapwire/IdleRoom"), .boolean]
  staticTypes := #[.int]
  resolved := Array.replicate 287 none
  statics := none }

def pool3 : Array CpInfo := pool [(1, u "java/lang/Cloneable"), (0, .class_ 1), (0, u "java/lang/Object"), (0, .class_ 3)] 3

/-- java/lang/Cloneable -/
def k3 : Class := { plain "java/lang/Cloneable" (some 0) with
  accessFlags := 1537
  interfaces := #[]
  cf := some (fileOf pool3 2 #[] #[] 1537 4 #[] #[])
  fields := #[]
  methods := #[]
  instanceTypes := #[]
  staticTypes := #[]
  resolved := Array.replicate 8 none
  statics := none }

def pool4 : Array CpInfo := pool [(1, u "java/io/Serializable"), (0, .class_ 1), (0, u "java/lang/Object"), (0, .class_ 3)] 3

/-- java/io/Serializable -/
def k4 : Class := { plain "java/io/Serializable" (some 0) with
  accessFlags := 1537
  interfaces := #[]
  cf := some (fileOf pool4 2 #[] #[] 1537 4 #[] #[])
  fields := #[]
  methods := #[]
  instanceTypes := #[]
  staticTypes := #[]
  resolved := Array.replicate 8 none
  statics := none }

/-- the primitive byte -/
def k5 : Class := { plain "byte" none with kind := .primitive 'B', accessFlags := 0x411 }
/-- [B -/
def k6 : Class := { plain "[B" (some 0) with kind := .array 5 .byte, interfaces := #[3, 4], accessFlags := 1041 }

/-- the primitive int -/
def k7 : Class := { plain "int" none with kind := .primitive 'I', accessFlags := 0x411 }
/-- [I -/
def k8 : Class := { plain "[I" (some 0) with kind := .array 7 .int, interfaces := #[3, 4], accessFlags := 1041 }

def heap : Heap := #[]
def classes : Array Class := #[k0, k1, k2, k3, k4, k5, k6, k7, k8]
def interned : List (Array UInt16 × Addr) := []
def slotsUsed : Nat := 0
def theMethod : MethodId := ⟨1, 1⟩
def args0 : Array Value := #[.int 300, .int 1, .int 7]
def aboutOver (below : List Frame) : State where
  vm := { classes := classes, interned := interned.toArray }
  heap := heap
  slotsUsed := slotsUsed
  threads := #[{ frames := .invoking theMethod args0 :: below }]
def below0 : List Frame := [.native { method := ⟨0, 0⟩, args := #[] }]
def about1 : State := aboutOver below0
def p0 : Program := .bare "" "" ""
def e0 : Env := launch0.env 0 0 0
theorem w_frames : about1.frames = Frame.invoking theMethod args0 :: below0 := rfl
set_option maxRecDepth 65536 in
theorem w_args : argsFit about1.vm theMethod args0 = true := by decide +kernel
set_option maxRecDepth 65536 in
theorem w_heap : heapFits about1 = true := by decide +kernel
set_option maxRecDepth 65536 in
theorem w_runnable : about1.curStatus? = some .runnable := by decide +kernel
set_option maxRecDepth 65536 in
theorem w_alone : about1.alone = true := by decide +kernel
set_option maxRecDepth 65536 in
theorem w_named : about1.methodNamed? x = some theMethod := by decide +kernel
set_option maxRecDepth 65536 in
theorem w_hears : about1.hears theMethod below0 = true := by decide +kernel
set_option maxRecDepth 65536 in
theorem w_ripe : about1.ripe theMethod args0 below0 = true := by decide +kernel
theorem w_running : about1.status = .running := rfl
set_option maxRecDepth 65536 in
theorem w_room : about1.hasRoom e0.platform room_1 = true :=
  launch0.hasRoom_least _ room_1 (by decide +kernel) (by decide +kernel) (by decide +kernel) (by decide +kernel) (by decide +kernel) (by decide +kernel)
theorem allAtoms_all (ts : List Jvm.Cond) (a : Array Jvm.Value) (st : Jvm.State) : (allAtoms ts).before a st = ts.all (fun c => c.before a st) := by
  induction ts with
  | nil => rfl
  | cons c t ih =>
    show (Jvm.Cond.and c (allAtoms t)).before a st = _
    rw [Jvm.Cond.before_and, ih, List.all_cons]
def words1 : List Jvm.Cond := Jvm.Cond.code x code maxLocals ret :: tables_1
/-- a 'code' word, met by the world's own term for the bytes: nothing is compared byte by byte -/
theorem code_word {y : MethodName} {bytes : ByteArray} {mx : Nat} {rt : Option FieldType} {a : Array Value} {s : State} {m : MethodId} {meth : Method} {c : Code} (h1 : s.methodNamed? y = some m) (h2 : s.vm.method? m = some meth) (h3 : meth.code = some c) (h4 : c.code = bytes)
    (h5 : (c.maxLocals == mx && c.exceptionTable.isEmpty && decide (c.maxStack ≤ mostOperands) && decide (meth.sig.returnType = rt) && !meth.locks && decide (parseMethodDescriptor y.desc = some meth.sig)) = true) : (Jvm.Cond.code y bytes mx rt).before a s = true := by
  simp only [Bool.and_eq_true, beq_iff_eq, Bool.not_eq_true', decide_eq_true_eq] at h5
  obtain ⟨⟨⟨⟨⟨g1, g2⟩, g3⟩, g4⟩, g5⟩, g6⟩ := h5
  simp [Cond.before, Cond.holds, Cond.value, h1, h2, h3, h4, g1, g2, g3, g4, g5, g6]
def isCode : Jvm.Cond → Bool
  | .code _ _ _ _ => true
  | _ => false
theorem all_split {L : List Jvm.Cond} {P : Jvm.Cond → Bool} (h1 : L.all (fun c => isCode c || P c) = true) (h2 : ∀ c ∈ L.filter isCode, P c = true) : L.all P = true := by
  refine List.all_eq_true.mpr fun c hc => ?_
  have h := List.all_eq_true.mp h1 c hc
  rcases Bool.eq_false_or_eq_true (isCode c) with hi | hi
  · exact h2 c (List.mem_filter.mpr ⟨hc, hi⟩)
  · simpa [hi] using h
set_option maxRecDepth 65536 in
theorem w_c0 : (Jvm.Cond.code x code maxLocals ret).before args0 about1 = true := code_word (m := ⟨1, 1⟩) (meth := k1m1) (c := k1c1) (by decide +kernel) rfl rfl rfl (by decide +kernel)
set_option maxRecDepth 65536 in
theorem w_c1 : (Jvm.Cond.code ({ cls := "io/heapwire/FrameOutputPutVarintPinLaw", name := "fill9", desc := "([BB)V" } : Jvm.MethodName) method_4_code (2 : Nat) (Option.none : Option Jvm.ClassFile.FieldType)).before args0 about1 = true := code_word (m := ⟨1, 3⟩) (meth := k1m3) (c := k1c3) (by decide +kernel) rfl rfl rfl (by decide +kernel)
set_option maxRecDepth 65536 in
theorem w_c2 : (Jvm.Cond.code ({ cls := "io/heapwire/FrameOutputPutVarintPinLaw", name := "put", desc := "([BIIJI)V" } : Jvm.MethodName) method_3_code (7 : Nat) (Option.none : Option Jvm.ClassFile.FieldType)).before args0 about1 = true := code_word (m := ⟨1, 2⟩) (meth := k1m2) (c := k1c2) (by decide +kernel) rfl rfl rfl (by decide +kernel)
set_option maxRecDepth 65536 in
theorem w_c3 : (Jvm.Cond.code ({ cls := "io/heapwire/FrameOutput", name := "putVarint", desc := "([BII)I" } : Jvm.MethodName) prog_30_method_11_code (5 : Nat) (Option.some Jvm.ClassFile.FieldType.int)).before args0 about1 = true := code_word (m := ⟨2, 1⟩) (meth := k2m1) (c := k2c1) (by decide +kernel) rfl rfl rfl (by decide +kernel)
set_option maxRecDepth 65536 in
theorem w_c4 : (Jvm.Cond.code ({ cls := "io/heapwire/FrameOutputPutVarintPinLaw", name := "same9", desc := "([B[B)Z" } : Jvm.MethodName) method_5_code (2 : Nat) (Option.some Jvm.ClassFile.FieldType.boolean)).before args0 about1 = true := code_word (m := ⟨1, 4⟩) (meth := k1m4) (c := k1c4) (by decide +kernel) rfl rfl rfl (by decide +kernel)
def codes1 : List Jvm.Cond := [Jvm.Cond.code x code maxLocals ret, Jvm.Cond.code ({ cls := "io/heapwire/FrameOutputPutVarintPinLaw", name := "fill9", desc := "([BB)V" } : Jvm.MethodName) method_4_code (2 : Nat) (Option.none : Option Jvm.ClassFile.FieldType), Jvm.Cond.code ({ cls := "io/heapwire/FrameOutputPutVarintPinLaw", name := "put", desc := "([BIIJI)V" } : Jvm.MethodName) method_3_code (7 : Nat) (Option.none : Option Jvm.ClassFile.FieldType), Jvm.Cond.code ({ cls := "io/heapwire/FrameOutput", name := "putVarint", desc := "([BII)I" } : Jvm.MethodName) prog_30_method_11_code (5 : Nat) (Option.some Jvm.ClassFile.FieldType.int), Jvm.Cond.code ({ cls := "io/heapwire/FrameOutputPutVarintPinLaw", name := "same9", desc := "([B[B)Z" } : Jvm.MethodName) method_5_code (2 : Nat) (Option.some Jvm.ClassFile.FieldType.boolean)]
set_option maxRecDepth 65536 in
theorem codes_eq : words1.filter isCode = codes1 := rfl
theorem w_codes : ∀ c ∈ words1.filter isCode, c.before args0 about1 = true := by
  rw [codes_eq]
  intro c hc
  simp only [codes1, List.mem_cons, List.not_mem_nil, or_false] at hc
  rcases hc with rfl | rfl | rfl | rfl | rfl
  · exact w_c0
  · exact w_c1
  · exact w_c2
  · exact w_c3
  · exact w_c4
set_option maxRecDepth 65536 in
theorem w_t1 : words1.all (fun c => isCode c || c.before args0 about1) = true := by decide +kernel
theorem w_tables : (allAtoms (Jvm.Cond.code x code maxLocals ret :: tables_1)).before args0 about1 = true := by
  rw [allAtoms_all]
  show words1.all (fun c => c.before args0 about1) = true
  refine all_split ?_ w_codes
  rw [w_t1]
set_option maxRecDepth 65536 in
theorem w_case : (Jvm.Cond.and given_1 narrow_1).before args0 about1 = true := by decide +kernel
theorem w_applies : (headSpec (Jvm.Cond.code x code maxLocals ret :: tables_1) room_1).applies x e0.platform about1 = true :=
  (Spec.applies_iff w_frames).mpr ⟨w_running, w_runnable, w_alone, w_named, w_hears, w_ripe, w_room, w_tables⟩
theorem atStart : AtStart classFile x code maxLocals ret World_1 tables_1 room_1 Calls_1 rest_1 Pre_1 launch0 p0 e0 about1 theMethod args0 below0 :=
  ⟨lists_1, trivial, launch0.admits_env _ _ _, launch0.least_env, fairChoices_fair.cas, fairChoices_fair.clock, w_frames, w_args, w_heap, w_applies, trivial, trivial, w_case⟩
end start1
theorem witness_1 : WitnessClaimed_1 := ⟨start1.p0, start1.e0, start1.about1, start1.theMethod, start1.args0, start1.below0, start1.atStart⟩
end Jvm.Pilot.@@N@@
