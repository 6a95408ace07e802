import JvmDerived
import JvmDerived.Pilot.@@N@@Statement
import JvmDerived.Pilot.@@N@@Code
set_option linter.unusedVariables false
set_option linter.unusedSimpArgs false
namespace Jvm.RoadKit
open Sem ClassFile Op Lib Jvm.Stand Jvm.Free Jvm.LawKit
section New
variable {p : Program} {l : Launch} {e : Env} {R : Room} {s : State} {m : MethodId} {args : Array Value} {below : List Frame} {meth : Method} {c : Code} {T : State} {locs : List Loc} {cells slots : Nat}
theorem retI (X : Stand p l e R s m args below meth c T locs cells slots) (hx : p.tables.exec = Jvm.exec) {pc : Nat} {Ls : Array Slot} {z : Int32} {rest : List Value} (hret : meth.sig.returnType = some .int) (hd : decode c.code pc = .ok (.ireturn, 1)) {fs : List Frame}
    (hl : ∀ (f : JFrame) (acts : List Action), f.method = m → f.locked = none → f.entered = [] → (doReturn e (T.setTop f) acts (some (.int z))).1 = T.setFrames fs) : Steps p.tables e below (T.setTop (mkF m pc Ls (.int z :: rest))) (T.setFrames fs) := by
  have hm' : T.vm.method? m = some meth := X.method'
  have hn : narrow .int (.int z) = .int z := rfl
  show Steps p.tables e below (T.setTop { method := m, pc := pc, locals := Ls, stack := _ :: rest, locked := none }) _
  jvm_step X.here [X.here.top, hx, hd, hm', hret, hn]
  first | (intro acts; rw [hl _ acts rfl rfl rfl]) | rw [hl _ _ rfl rfl rfl]
  exact Steps.refl _
/-- a run from A that ends in an outcome with P -/
def Gl (tb : Tables) (e : Env) (below : List Frame) (P : Outcome → State → Prop) (A : State) : Prop := ∃ s₂ o, Steps tb e below A s₂ ∧ s₂.status = .running ∧ Ended s₂ below o ∧ P o s₂
theorem Gl.pre {tb : Tables} {e : Env} {below : List Frame} {P : Outcome → State → Prop} {A B : State} (h : ∀ t, Steps tb e below B t → Steps tb e below A t) (g : Gl tb e below P B) : Gl tb e below P A := by
  obtain ⟨s2, o, h1, r⟩ := g; exact ⟨s2, o, h _ h1, r⟩
theorem own_finI (X : Stand p l e R s m args below meth c T locs cells slots) (hx : p.tables.exec = Jvm.exec) (hlk : meth.locks = false) {pc : Nat} {Ls : Array Slot} {z : Int32} {rest : List Value} (hret : meth.sig.returnType = some .int) (hd : decode c.code pc = .ok (.ireturn, 1)) {Q : Option Value → Heap → List Loc → Prop} {C S : Nat}
    (hq : Q (some (.int z)) T.heap locs) (hc : cells ≤ C) (hs : slots ≤ S) : Gl p.tables e below (fun o U' => ∃ v L, o = .returned v ∧ Q v U'.heap L ∧ FrameEnd s o U' L C S) (T.setTop (mkF m pc Ls (.int z :: rest))) := by
  obtain ⟨fs, hr, hrun, hended, hW, hsame⟩ := X.leave (v := some (.int z)) (fun h => by rw [hret] at h; cases h) hlk
  exact ⟨_, _, retI X hx hret hd hr, hrun, hended, _, _, rfl, hq, ⟨_, rfl⟩, hW, hsame.mono hc hs⟩
theorem own_finN (X : Stand p l e R s m args below meth c T locs cells slots) (hx : p.tables.exec = Jvm.exec) (hlk : meth.locks = false) {pc : Nat} {Ls : Array Slot} {z z' : Int32} {rest : List Value} {t : FieldType} (hret : meth.sig.returnType = some t) (ht : t = .boolean ∨ t = .byte ∨ t = .char ∨ t = .short) (hz : nar t z = z') (hd : decode c.code pc = .ok (.ireturn, 1)) {Q : Option Value → Heap → List Loc → Prop} {C S : Nat}
    (hq : Q (some (.int z')) T.heap locs) (hc : cells ≤ C) (hs : slots ≤ S) : Gl p.tables e below (fun o U' => ∃ v L, o = .returned v ∧ Q v U'.heap L ∧ FrameEnd s o U' L C S) (T.setTop (mkF m pc Ls (.int z :: rest))) := by
  subst hz
  obtain ⟨fs, hr, hrun, hended, hW, hsame⟩ := X.leave (v := some (.int (nar t z))) (fun h => by rw [hret] at h; cases h) hlk
  exact ⟨_, _, retN X hx hret ht hd hr, hrun, hended, _, _, rfl, hq, ⟨_, rfl⟩, hW, hsame.mono hc hs⟩
theorem own_finV (X : Stand p l e R s m args below meth c T locs cells slots) (hx : p.tables.exec = Jvm.exec) (hlk : meth.locks = false) {pc : Nat} {Ls : Array Slot} (hret : meth.sig.returnType = none) (hd : decode c.code pc = .ok (.return_, 1)) {Q : Option Value → Heap → List Loc → Prop} {C S : Nat}
    (hq : Q none T.heap locs) (hc : cells ≤ C) (hs : slots ≤ S) : Gl p.tables e below (fun o U' => ∃ v L, o = .returned v ∧ Q v U'.heap L ∧ FrameEnd s o U' L C S) (T.setTop (mkF m pc Ls [])) := by
  obtain ⟨fs, hr, hrun, hended, hW, hsame⟩ := X.leave (v := none) (fun _ => rfl) hlk
  exact ⟨_, _, X.returnOut hx hret hd hr, hrun, hended, _, _, rfl, hq, ⟨_, rfl⟩, hW, hsame.mono hc hs⟩
theorem own_finA (X : Stand p l e R s m args below meth c T locs cells slots) (hx : p.tables.exec = Jvm.exec) (hlk : meth.locks = false) {pc : Nat} {Ls : Array Slot} {w : Value} {rest : List Value} {t : FieldType} (hret : meth.sig.returnType = some t) (hw : w.isRef = true) (ht : t.isReference = true) (hd : decode c.code pc = .ok (.areturn, 1)) {Q : Option Value → Heap → List Loc → Prop} {C S : Nat}
    (hq : Q (some w) T.heap locs) (hc : cells ≤ C) (hs : slots ≤ S) : Gl p.tables e below (fun o U' => ∃ v L, o = .returned v ∧ Q v U'.heap L ∧ FrameEnd s o U' L C S) (T.setTop (mkF m pc Ls (w :: rest))) := by
  obtain ⟨fs, hr, hrun, hended, hW, hsame⟩ := X.leave (v := some w) (fun h => by rw [hret] at h; cases h) hlk
  have hn : narrow t w = w := by rcases ref_cases hw with rfl | ⟨z, rfl⟩ <;> cases t <;> rfl
  exact ⟨_, _, retOut X hx hret hn (Or.inr (Or.inr (Or.inr (Or.inr ⟨rfl, ht, hw⟩)))) hd hr, hrun, hended, _, _, rfl, hq, ⟨_, rfl⟩, hW, hsame.mono hc hs⟩
/-- Java's >>> -/
def own_ushr (x y : Int32) : Int32 := (x.toUInt32 >>> (y &&& 31).toUInt32).toInt32
def own_ushrL (x : Int64) (y : Int32) : Int64 := (x.toUInt64 >>> (y &&& 0x3f).toInt64.toUInt64).toInt64
/-- 1 where P holds, else 0 -/
def own_pi (P : Prop) [Decidable P] : Int32 := if P then 1 else 0
theorem own_pi_t {P : Prop} [Decidable P] (h : P) : own_pi P = 1 := if_pos h
theorem own_pi_f {P : Prop} [Decidable P] (h : ¬ P) : own_pi P = 0 := if_neg h
theorem own_pi_nt {P : Prop} [Decidable P] (h : P) : own_pi (¬ P) = 0 := if_neg (fun q => q h)
theorem own_pi_nf {P : Prop} [Decidable P] (h : ¬ P) : own_pi (¬ P) = 1 := if_pos h
theorem own_pi0 {P : Prop} [Decidable P] : own_pi P = 0 ↔ ¬ P := by unfold own_pi; split <;> simp_all
theorem own_pi_eq {P Q : Prop} [Decidable P] [Decidable Q] (h : P ↔ Q) : own_pi P = own_pi Q := by unfold own_pi; simp [h]
theorem own_nar_pi {P : Prop} [i : Decidable P] : nar .boolean (@own_pi P i) = @own_pi P i := by unfold own_pi; split <;> decide
end New
/-- the array at a (of kind ty) holds the ints xs -/
def Bal (Z : State) (h : Heap) (a : Addr) (ty : FieldType) (xs : List Int32) : Prop := ∃ c : Cell, Arr Z h a c ty ∧ c.slots.size = xs.length ∧ ∀ i, i < xs.length → c.slots[i]? = some (.int (xs.getD i 0))
section Arrays
variable {Z : State} {h h' : Heap} {a b : Addr} {ty : FieldType} {xs : List Int32} {ws : List Addr}
theorem Bal.lt (F : Bal Z h a ty xs) : a < h.size := by obtain ⟨c, A, -⟩ := F; exact A.lt
theorem Bal.ext (F : Bal Z h a ty xs) (E : Ext h h') : Bal Z h' a ty xs := by obtain ⟨c, A, r⟩ := F; exact ⟨c, A.ext E, r⟩
theorem Bal.other {sl : Nat} {v : Value} (F : Bal Z h b ty xs) (W : Wr h h' a sl v) (q : b ≠ a) : Bal Z h' b ty xs := by obtain ⟨c, A, r⟩ := F; exact ⟨c, A.other W q, r⟩
theorem Bal.keep (F : Bal Z h a ty xs) (K : Keep h h' ws) (q : a ∉ ws) : Bal Z h' a ty xs := by obtain ⟨c, A, r⟩ := F; exact ⟨c, ⟨K.2.1 a c A.1 q, A.2⟩, r⟩
theorem Bal.new {k : ClassId} {z : Int32} {n : Nat} (A : Arr Z h a (newA k ty z) ty) (hz : z.toNatClampNeg = n) (hd : defaultValue ty = .int 0) : Bal Z h a ty (List.replicate n 0) := by
  subst hz
  refine ⟨_, A, by rw [sz_new, List.length_replicate], fun i hi => ?_⟩
  rw [List.length_replicate] at hi
  simp [newA, hd, hi, List.getD_eq_getElem?_getD]
theorem Bal.set {i : Nat} {v : Int32} (F : Bal Z h a ty xs) (W : Wr h h' a i (.int v)) (hi : i < xs.length) : Bal Z h' a ty (xs.set i v) := by
  obtain ⟨c, A, S, H⟩ := F
  refine ⟨_, A.same W, by rw [sz_set, S, List.length_set], fun k hk => ?_⟩
  rw [List.length_set] at hk
  show (c.slots.setIfInBounds i (.int v))[k]? = _
  rw [Array.getElem?_setIfInBounds, List.getD_eq_getElem?_getD, List.getElem?_set]
  by_cases q : i = k
  · subst q; simp [S, hk]
  · rw [if_neg q, if_neg q, ← List.getD_eq_getElem?_getD]; exact H k hk
theorem Bal.inb {c : Cell} {j : Int32} {i : Nat} (S : c.slots.size = xs.length) (h0 : ¬ j < 0) (hj : j.toNatClampNeg = i) (hi : i < xs.length) : ¬ (j < 0 ∨ c.slots.size ≤ j.toNatClampNeg) := by
  rintro (q | q)
  · exact h0 q
  · omega
variable {p : Program} {l : Launch} {e : Env} {R : Room} {s : State} {m : MethodId} {args : Array Value} {below : List Frame} {meth : Method} {c : Code} {T : State} {locs : List Loc} {cells slots : Nat}
theorem own_stB (X : Stand p l e R s m args below meth c T locs cells slots) (hx : p.tables.exec = Jvm.exec) (hZ : Z.Warmed39 s.vm) (eT : T.heap = h) (F : Bal Z h a .byte xs) {j x : Int32} {i : Nat} (h0 : ¬ j < 0) (hj : j.toNatClampNeg = i) (hi : i < xs.length) {g : JFrame} (hg : g.method = m) {rest : List Value} (hs : g.stack = .int x :: .int j :: .ref a :: rest) (hd : decode c.code g.pc = .ok (.bastore, 1)) :
    ∃ T' h', Stand p l e R s m args below meth c T' (locs ++ [⟨a, i⟩]) cells slots ∧ T'.heap = h' ∧ Wr h h' a i (.int (nar .byte x)) ∧ Bal Z h' a .byte (xs.set i (nar .byte x)) ∧ ∀ target, Steps p.tables e below (T'.setTop { g with pc := g.pc + 1, stack := rest }) target → Steps p.tables e below (T.setTop g) target := by
  have F' := F
  obtain ⟨cl, A, S, H⟩ := F
  obtain ⟨T', h', X', e', W, st⟩ := stB X hx hZ eT A (j := j) (Bal.inb S h0 hj hi) hg hs hd
  subst hj
  exact ⟨T', h', X', e', W, F'.set W hi, st⟩
theorem own_stC (X : Stand p l e R s m args below meth c T locs cells slots) (hx : p.tables.exec = Jvm.exec) (hZ : Z.Warmed39 s.vm) (eT : T.heap = h) (F : Bal Z h a .char xs) {j x : Int32} {i : Nat} (h0 : ¬ j < 0) (hj : j.toNatClampNeg = i) (hi : i < xs.length) {g : JFrame} (hg : g.method = m) {rest : List Value} (hs : g.stack = .int x :: .int j :: .ref a :: rest) (hd : decode c.code g.pc = .ok (.castore, 1)) :
    ∃ T' h', Stand p l e R s m args below meth c T' (locs ++ [⟨a, i⟩]) cells slots ∧ T'.heap = h' ∧ Wr h h' a i (.int (nar .char x)) ∧ Bal Z h' a .char (xs.set i (nar .char x)) ∧ ∀ target, Steps p.tables e below (T'.setTop { g with pc := g.pc + 1, stack := rest }) target → Steps p.tables e below (T.setTop g) target := by
  have F' := F
  obtain ⟨cl, A, S, H⟩ := F
  obtain ⟨T', h', X', e', W, st⟩ := stC X hx hZ eT A (j := j) (Bal.inb S h0 hj hi) hg hs hd
  subst hj
  exact ⟨T', h', X', e', W, F'.set W hi, st⟩
theorem own_ldB (X : Stand p l e R s m args below meth c T locs cells slots) (hx : p.tables.exec = Jvm.exec) (hZ : Z.Warmed39 s.vm) (eT : T.heap = h) (F : Bal Z h a .byte xs) {j : Int32} {i : Nat} (h0 : ¬ j < 0) (hj : j.toNatClampNeg = i) (hi : i < xs.length) {v : Int32} (hv : xs.getD i 0 = v) {g : JFrame} (hg : g.method = m) {rest : List Value} (hs : g.stack = .int j :: .ref a :: rest) (hd : decode c.code g.pc = .ok (.baload, 1)) (target : State)
    (k : Steps p.tables e below (T.setTop { g with pc := g.pc + 1, stack := .int v :: rest }) target) : Steps p.tables e below (T.setTop g) target := by
  obtain ⟨cl, A, S, H⟩ := F
  subst hv
  exact X.baloadBytes hx (j := j) (v := .int (xs.getD i 0)) (by rw [eT]; exact A.1) (State.isArrayOf_alike hZ.alike A.2.1) A.2.2 (Bal.inb S h0 hj hi) (by rw [hj]; exact H i hi) hg hs hd _ k
theorem own_ldC (X : Stand p l e R s m args below meth c T locs cells slots) (hx : p.tables.exec = Jvm.exec) (hZ : Z.Warmed39 s.vm) (eT : T.heap = h) (F : Bal Z h a .char xs) {j : Int32} {i : Nat} (h0 : ¬ j < 0) (hj : j.toNatClampNeg = i) (hi : i < xs.length) {v : Int32} (hv : xs.getD i 0 = v) {g : JFrame} (hg : g.method = m) {rest : List Value} (hs : g.stack = .int j :: .ref a :: rest) (hd : decode c.code g.pc = .ok (.caload, 1)) (target : State)
    (k : Steps p.tables e below (T.setTop { g with pc := g.pc + 1, stack := .int v :: rest }) target) : Steps p.tables e below (T.setTop g) target := by
  obtain ⟨cl, A, S, H⟩ := F
  subst hv
  exact X.caload hx (j := j) (v := .int (xs.getD i 0)) (by rw [eT]; exact A.1) (State.isArrayOf_alike hZ.alike A.2.1) A.2.2 (Bal.inb S h0 hj hi) (by rw [hj]; exact H i hi) hg hs hd _ k
theorem own_len (X : Stand p l e R s m args below meth c T locs cells slots) (hx : p.tables.exec = Jvm.exec) (hZ : Z.Warmed39 s.vm) (eT : T.heap = h) (F : Bal Z h a ty xs) {v : Int32} (hv : xs.length.toInt32 = v) {g : JFrame} (hg : g.method = m) {rest : List Value} (hs : g.stack = .ref a :: rest) (hd : decode c.code g.pc = .ok (.arraylength, 1)) (target : State)
    (k : Steps p.tables e below (T.setTop { g with pc := g.pc + 1, stack := .int v :: rest }) target) : Steps p.tables e below (T.setTop g) target := by
  obtain ⟨cl, A, S, H⟩ := F
  subst hv
  refine X.arraylength hx (by rw [eT]; exact A.1) (State.isArrayOf_alike hZ.alike A.2.1) hg hs hd _ ?_
  rw [S]; exact k
theorem own_balOf {k : ClassId} {z : Int32} (F : Arv Z h a k .byte z (xs.map Value.int) (.int 0)) (hz : z.toNatClampNeg = xs.length) : Bal Z h a .byte xs := by
  obtain ⟨c, A, -, S, -, H, -⟩ := F
  refine ⟨c, A, by rw [S, hz], fun i hi => ?_⟩
  have q := H i (by rw [S, hz]; exact hi)
  rw [q]
  simp [List.getD_eq_getElem?_getD, List.getElem?_map, List.getElem?_eq_getElem hi]
theorem own_arvC (F : Bal Z h a .char xs) (hf : ∀ x ∈ xs, fits .char (.int x) = true) (hl : xs.length < 2 ^ 31) : ∃ k, Arv Z h a k .char (Int32.ofNat xs.length) (xs.map Value.int) (.int 0) := by
  obtain ⟨c, A, S, H⟩ := F
  have hi : (Int32.ofNat xs.length).toInt = xs.length := Int32.toInt_ofNat_of_lt hl
  refine ⟨c.cls, c, A, rfl, ?_, ?_, ?_, ?_⟩
  · rw [S, Int32.toNatClampNeg, hi]; rfl
  · rw [Int32.lt_iff_toInt_lt, hi, show (0 : Int32).toInt = 0 from rfl]; omega
  · intro i hi'
    rw [S] at hi'
    rw [H i hi']
    simp [List.getD_eq_getElem?_getD, List.getElem?_map, List.getElem?_eq_getElem hi']
  · intro i hi'
    rw [S] at hi'
    have : (xs.map Value.int).getD i (.int 0) = .int xs[i] := by simp [List.getD_eq_getElem?_getD, List.getElem?_map, List.getElem?_eq_getElem hi']
    rw [this]; exact hf _ (List.getElem_mem hi')
theorem own_piN {P : Prop} [Decidable P] : (¬ own_pi P = 0) ↔ P := by unfold own_pi; split <;> simp_all
end Arrays
section Wide
variable {p : Program} {l : Launch} {e : Env} {R : Room} {s Z : State} {EL : List (String × Nat)} {vm0 : Vm} {k0 : Nat} {m : MethodId} {args : Array Value} {below : List Frame} {meth : Method} {c : Code} {T : State} {locs : List Loc} {cells slots : Nat}
theorem own_monoW {t : State} {o : Outcome} {L : List Loc} {k n k' n' : Nat} (h : ReturnedEndW s o t L k n) (hk : k ≤ k') (hn : n ≤ n') : ReturnedEndW s o t L k' n' := ⟨h.1, h.2.1, h.2.2.1, h.2.2.2.mono hk hn⟩
theorem own_finIW (X : Stand p l e R (s.setVm vm0) m args below meth c T locs cells slots) (hx : p.tables.exec = Jvm.exec) (hlk : meth.locks = false) (hS : s.Since vm0 k0) (hk : k0 ≤ T.heap.size) {pc : Nat} {Ls : Array Slot} {z : Int32} {rest : List Value} (hret : meth.sig.returnType = some .int) (hd : decode c.code pc = .ok (.ireturn, 1)) {Q : Option Value → Heap → List Loc → Prop} {C S : Nat}
    (hq : Q (some (.int z)) T.heap locs) (hC : CHr Z EL s.vm s.heap T.vm T.heap) (hc : cells ≤ C) (hs : slots ≤ S) : Gl p.tables e below (fun o U' => ∃ v L, o = .returned v ∧ Q v U'.heap L ∧ CHr Z EL s.vm s.heap U'.vm U'.heap ∧ ReturnedEndW s o U' L C S) (T.setTop (mkF m pc Ls (.int z :: rest))) := by
  obtain ⟨fs, hr, hrun, hended, hW⟩ := X.leaveW hS hk (v := some (.int z)) (fun h => by rw [hret] at h; cases h) hlk
  exact ⟨_, _, retI X hx hret hd hr, hrun, hended, _, _, rfl, hq, hC, own_monoW hW hc hs⟩
theorem own_finNW (X : Stand p l e R (s.setVm vm0) m args below meth c T locs cells slots) (hx : p.tables.exec = Jvm.exec) (hlk : meth.locks = false) (hS : s.Since vm0 k0) (hk : k0 ≤ T.heap.size) {pc : Nat} {Ls : Array Slot} {z z' : Int32} {rest : List Value} {t : FieldType} (hret : meth.sig.returnType = some t) (ht : t = .boolean ∨ t = .byte ∨ t = .char ∨ t = .short) (hz : nar t z = z') (hd : decode c.code pc = .ok (.ireturn, 1)) {Q : Option Value → Heap → List Loc → Prop} {C S : Nat}
    (hq : Q (some (.int z')) T.heap locs) (hC : CHr Z EL s.vm s.heap T.vm T.heap) (hc : cells ≤ C) (hs : slots ≤ S) : Gl p.tables e below (fun o U' => ∃ v L, o = .returned v ∧ Q v U'.heap L ∧ CHr Z EL s.vm s.heap U'.vm U'.heap ∧ ReturnedEndW s o U' L C S) (T.setTop (mkF m pc Ls (.int z :: rest))) := by
  subst hz
  obtain ⟨fs, hr, hrun, hended, hW⟩ := X.leaveW hS hk (v := some (.int (nar t z))) (fun h => by rw [hret] at h; cases h) hlk
  exact ⟨_, _, retN X hx hret ht hd hr, hrun, hended, _, _, rfl, hq, hC, own_monoW hW hc hs⟩
theorem own_finVW (X : Stand p l e R (s.setVm vm0) m args below meth c T locs cells slots) (hx : p.tables.exec = Jvm.exec) (hlk : meth.locks = false) (hS : s.Since vm0 k0) (hk : k0 ≤ T.heap.size) {pc : Nat} {Ls : Array Slot} (hret : meth.sig.returnType = none) (hd : decode c.code pc = .ok (.return_, 1)) {Q : Option Value → Heap → List Loc → Prop} {C S : Nat}
    (hq : Q none T.heap locs) (hC : CHr Z EL s.vm s.heap T.vm T.heap) (hc : cells ≤ C) (hs : slots ≤ S) : Gl p.tables e below (fun o U' => ∃ v L, o = .returned v ∧ Q v U'.heap L ∧ CHr Z EL s.vm s.heap U'.vm U'.heap ∧ ReturnedEndW s o U' L C S) (T.setTop (mkF m pc Ls [])) := by
  obtain ⟨fs, hr, hrun, hended, hW⟩ := X.leaveW hS hk (v := none) (fun _ => rfl) hlk
  exact ⟨_, _, X.returnOut hx hret hd hr, hrun, hended, _, _, rfl, hq, hC, own_monoW hW hc hs⟩
theorem own_finAW (X : Stand p l e R (s.setVm vm0) m args below meth c T locs cells slots) (hx : p.tables.exec = Jvm.exec) (hlk : meth.locks = false) (hS : s.Since vm0 k0) (hk : k0 ≤ T.heap.size) {pc : Nat} {Ls : Array Slot} {w : Value} {rest : List Value} {t : FieldType} (hret : meth.sig.returnType = some t) (hw : w.isRef = true) (ht : t.isReference = true) (hd : decode c.code pc = .ok (.areturn, 1)) {Q : Option Value → Heap → List Loc → Prop} {C S : Nat}
    (hq : Q (some w) T.heap locs) (hC : CHr Z EL s.vm s.heap T.vm T.heap) (hc : cells ≤ C) (hs : slots ≤ S) : Gl p.tables e below (fun o U' => ∃ v L, o = .returned v ∧ Q v U'.heap L ∧ CHr Z EL s.vm s.heap U'.vm U'.heap ∧ ReturnedEndW s o U' L C S) (T.setTop (mkF m pc Ls (w :: rest))) := by
  obtain ⟨fs, hr, hrun, hended, hW⟩ := X.leaveW hS hk (v := some w) (fun h => by rw [hret] at h; cases h) hlk
  have hn : narrow t w = w := by rcases ref_cases hw with rfl | ⟨z, rfl⟩ <;> cases t <;> rfl
  exact ⟨_, _, retOut X hx hret hn (Or.inr (Or.inr (Or.inr (Or.inr ⟨rfl, ht, hw⟩)))) hd hr, hrun, hended, _, _, rfl, hq, hC, own_monoW hW hc hs⟩
/-- a callee that keeps the constants' invariant; SL: objects that it may write, none of them a constant's -/
theorem own_backH {a0 : Array Value} {h : Heap} {y : MethodName} {bytes : ByteArray} {maxL : Nat} {ret : Option FieldType} {rm : Room} {len W : Nat} {as' : Array Value} {Q : Option Value → Heap → List Loc → Prop} {SL : List Addr}
    (hM : MetFree l y (head1 [Cond.code y bytes maxL ret] rm) (fun a U => a = as' ∧ Z.Warmed39 U.vm ∧ U.heap = h ∧ CHv Z EL U.vm h ∧ ∀ x ∈ SL, Safe Z EL U.vm h x) (fun _ _ _ _ _ => True) (fun _ U o U' => ∃ v L, o = .returned v ∧ Q v U'.heap L ∧ CHr Z EL U.vm U.heap U'.vm U'.heap ∧ ReturnedEndW U o U' L rm.cells rm.slots))
    (hZ : Z.Warmed39 vm0) (wc : (Cond.code y bytes maxL ret).before a0 Z = true) (wz : (Cond.initialized y.cls).before a0 Z = true) (hf : rm.frames + 1 ≤ R.frames) (hl : W + (maxL + 11) + rm.locals ≤ R.locals) (hEL : EW Z a0 EL) (H : CHv Z EL vm0 h) (hSL : ∀ x ∈ SL, x < h.size ∧ Safe Z EL vm0 h x) :
    BackS l R p e below (s.setVm vm0) args y len W (fun A a => a = as' ∧ A.U.heap = h ∧ A.cells + rm.cells ≤ R.cells ∧ A.slots + rm.slots ≤ R.slots)
      (fun A _ v B => ∃ L, Q v B.U.heap L ∧ B.locs = A.locs ++ L ∧ B.cells = A.cells + rm.cells ∧ B.slots = A.slots + rm.slots ∧ CHr Z EL vm0 h B.U.vm B.U.heap) := by
  refine BackS.of_freeW (bytes := bytes) (maxL := maxL) (ret := ret) (E := fun _ first o t L k n => k = rm.cells ∧ n = rm.slots ∧ (∃ v, o = .returned v ∧ Q v t.heap L) ∧ CHr Z EL first.vm first.heap t.vm t.heap) hM hf hl ?_ ?_ (fun _ _ _ _ _ _ _ _ _ => trivial) (fun _ _ _ _ ⟨v, L, h1, h2, h3, h4⟩ => ⟨L, _, _, h4, rfl, rfl, ⟨v, h1, h2⟩, h3⟩) ?_
  · intro m meth c A a Y hp
    have hU : Z.Warmed39 A.U.vm := wtrans (s := s.setVm vm0) hZ Y.warmed
    refine ⟨?_, mv hU wc, mv hU wz, hp.2.2.1, hp.2.2.2⟩
    show (Cond.and _ .tt).before a A.U = true
    rw [Cond.before_and, mv hU wc]; rfl
  · intro m meth c A a g mk Y hp
    have q := CHv.at Y hZ hEL H
    exact ⟨hp.1, wtrans (s := s.setVm vm0) hZ Y.warmed, hp.2.1, q.1, fun x hx => q.safe (hSL x hx).1 (hSL x hx).2⟩
  · rintro m meth c A a g mk v t L k n Y hp _ _ ⟨e1, e2, ⟨v', e3, e4⟩, e5⟩
    cases e3; subst e1 e2
    refine ⟨L, e4, rfl, rfl, rfl, (CHv.at Y hZ hEL H).trans ?_⟩
    rw [← hp.2.1]; exact e5
end Wide
theorem own_fits_pi {P : Prop} [i : Decidable P] : fits .boolean (.int (@own_pi P i)) = true := by unfold own_pi; split <;> rfl
/-- the array at a, of the class k over C, holds the values vs -/
def Ral (Z : State) (h : Heap) (a : Addr) (k : ClassId) (C : String) (vs : List Value) : Prop := ∃ c : Cell, Arr Z h a c (.object C) ∧ c.cls = k ∧ c.slots.size = vs.length ∧ ∀ i, i < vs.length → c.slots[i]? = some (vs.getD i .null)
section Refs
variable {Z : State} {h h' : Heap} {a b : Addr} {k : ClassId} {C : String} {vs : List Value} {ws : List Addr}
theorem Ral.lt (F : Ral Z h a k C vs) : a < h.size := by obtain ⟨c, A, -⟩ := F; exact A.lt
theorem Ral.ext (F : Ral Z h a k C vs) (E : Ext h h') : Ral Z h' a k C vs := by obtain ⟨c, A, r⟩ := F; exact ⟨c, A.ext E, r⟩
theorem Ral.other {sl : Nat} {v : Value} (F : Ral Z h b k C vs) (W : Wr h h' a sl v) (q : b ≠ a) : Ral Z h' b k C vs := by obtain ⟨c, A, r⟩ := F; exact ⟨c, A.other W q, r⟩
theorem Ral.keep (F : Ral Z h a k C vs) (K : Keep h h' ws) (q : a ∉ ws) : Ral Z h' a k C vs := by obtain ⟨c, A, r⟩ := F; exact ⟨c, ⟨K.2.1 a c A.1 q, A.2⟩, r⟩
theorem Ral.new {z : Int32} {n : Nat} (A : Arr Z h a (newA k (.object C) z) (.object C)) (hz : z.toNatClampNeg = n) : Ral Z h a k C (List.replicate n .null) := by
  subst hz
  refine ⟨_, A, rfl, by rw [sz_new, List.length_replicate], fun i hi => ?_⟩
  rw [List.length_replicate] at hi
  simp [newA, defaultValue, hi, List.getD_eq_getElem?_getD]
theorem Ral.set {i : Nat} {v : Value} (F : Ral Z h a k C vs) (W : Wr h h' a i v) (hi : i < vs.length) : Ral Z h' a k C (vs.set i v) := by
  obtain ⟨c, A, q0, S, H⟩ := F
  refine ⟨_, A.same W, q0, by rw [sz_set, S, List.length_set], fun k hk => ?_⟩
  rw [List.length_set] at hk
  show (c.slots.setIfInBounds i v)[k]? = _
  rw [Array.getElem?_setIfInBounds, List.getD_eq_getElem?_getD, List.getElem?_set]
  by_cases q : i = k
  · subst q; simp [S, hk]
  · rw [if_neg q, if_neg q, ← List.getD_eq_getElem?_getD]; exact H k hk
variable {p : Program} {l : Launch} {e : Env} {R : Room} {s : State} {m : MethodId} {args : Array Value} {below : List Frame} {meth : Method} {c : Code} {T : State} {locs : List Loc} {cells slots : Nat}
theorem own_stR (X : Stand p l e R s m args below meth c T locs cells slots) (hx : p.tables.exec = Jvm.exec) (hZ : Z.Warmed39 s.vm) (eT : T.heap = h) (F : Ral Z h a k C vs) (O : Ovr Z k C) {y : Addr} (I : Ins Z h y C true) {j : Int32} {i : Nat} (h0 : ¬ j < 0) (hj : j.toNatClampNeg = i) (hi : i < vs.length) {g : JFrame} (hg : g.method = m) {rest : List Value} (hs : g.stack = .ref y :: .int j :: .ref a :: rest) (hd : decode c.code g.pc = .ok (.aastore, 1)) :
    ∃ T' h', Stand p l e R s m args below meth c T' (locs ++ [⟨a, i⟩]) cells slots ∧ T'.heap = h' ∧ Wr h h' a i (.ref y) ∧ Ral Z h' a k C (vs.set i (.ref y)) ∧ ∀ target, Steps p.tables e below (T'.setTop { g with pc := g.pc + 1, stack := rest }) target → Steps p.tables e below (T.setTop g) target := by
  have F' := F
  obtain ⟨cl, A, q0, S, H⟩ := F
  have hin : ¬ (j < 0 ∨ cl.slots.size ≤ j.toNatClampNeg) := by
    rintro (q | q)
    · exact h0 q
    · omega
  subst q0
  obtain ⟨T', h', X', e', W, st⟩ := stR X hx hZ eT A (j := j) hin rfl (Sto.of A O I) hg hs hd
  subst hj
  exact ⟨T', h', X', e', W, F'.set W hi, st⟩
theorem own_ldR (X : Stand p l e R s m args below meth c T locs cells slots) (hx : p.tables.exec = Jvm.exec) (hZ : Z.Warmed39 s.vm) (eT : T.heap = h) (F : Ral Z h a k C vs) {j : Int32} {i : Nat} (h0 : ¬ j < 0) (hj : j.toNatClampNeg = i) (hi : i < vs.length) {v : Value} (hv : vs.getD i .null = v) {g : JFrame} (hg : g.method = m) {rest : List Value} (hs : g.stack = .int j :: .ref a :: rest) (hd : decode c.code g.pc = .ok (.aaload, 1)) (target : State)
    (kk : Steps p.tables e below (T.setTop { g with pc := g.pc + 1, stack := v :: rest }) target) : Steps p.tables e below (T.setTop g) target := by
  obtain ⟨cl, A, q0, S, H⟩ := F
  have hin : ¬ (j < 0 ∨ cl.slots.size ≤ j.toNatClampNeg) := by
    rintro (q | q)
    · exact h0 q
    · omega
  subst hv
  exact X.aaload hx (j := j) (v := vs.getD i .null) (by rw [eT]; exact A.1) (State.isArrayOf_alike hZ.alike A.2.1) rfl A.2.2 hin (by rw [hj]; exact H i hi) hg hs hd _ kk
end Refs
section Starts
variable {s : State} {args : Array Value} {t : Term} {a : Addr} {C n d : String}
theorem own_fldI {z : Int32} (ev : t.eval args s none [] s = some (.ref a)) (h : (Cond.eq (Term.field t C n d) (Term.int z)).value args s none s [] = some true) : Fld s s.heap a C n d (.int z) := by
  refine Fld.start ?_
  rw [← fld_at (args := args) (first := s) (o := none) (idx := []) ev]
  cases hf : (Term.field t C n d).eval args s none [] s with
  | none => simp [Cond.value, hf] at h
  | some x =>
    have hz : (Term.int z).eval args s none [] s = some (.int z) := rfl
    cases x <;> simp [Cond.value, hf, hz] at h
    rw [h]
theorem own_fldN (ev : t.eval args s none [] s = some (.ref a)) (h : (Cond.eq (Term.field t C n d) Term.null).value args s none s [] = some true) : Fld s s.heap a C n d .null := by
  refine Fld.start ?_
  rw [← fld_at (args := args) (first := s) (o := none) (idx := []) ev]
  exact null_v h
theorem own_fldE {K : String} (ev : t.eval args s none [] s = some (.ref a)) (h : (Cond.exactly (Term.field t C n d) K).value args s none s [] = some true) : ∃ y, Fld s s.heap a C n d (.ref y) := by
  obtain ⟨y, hy⟩ := exa_v h
  refine ⟨y, Fld.start ?_⟩
  rw [← fld_at (args := args) (first := s) (o := none) (idx := []) ev]
  exact hy
theorem own_fldS {u : Term} {b : Addr} (ev : t.eval args s none [] s = some (.ref a)) (eu : u.eval args s none [] s = some (.ref b)) (h : (Cond.eq (Term.field t C n d) u).value args s none s [] = some true) : Fld s s.heap a C n d (.ref b) := by
  refine Fld.start ?_
  rw [← fld_at (args := args) (first := s) (o := none) (idx := []) ev]
  cases hf : (Term.field t C n d).eval args s none [] s with
  | none => simp [Cond.value, hf] at h
  | some x =>
    cases x <;> simp [Cond.value, hf, eu] at h
    rw [h]
theorem own_statI {t : Term} {z : Int32} (h : (Cond.eq t (Term.int z)).value args s none s [] = some true) : t.eval args s none [] s = some (.int z) := by
  cases hf : t.eval args s none [] s with
  | none => simp [Cond.value, hf] at h
  | some x =>
    have hz : (Term.int z).eval args s none [] s = some (.int z) := rfl
    cases x <;> simp [Cond.value, hf, hz] at h
    rw [h]
theorem own_empty {cl : Cell} {ty : FieldType} (ev : t.eval args s none [] s = some (.ref a)) (A : Arr s s.heap a cl ty) (h : (Cond.eq (Term.length t) (Term.int 0)).value args s none s [] = some true) : Bal s s.heap a ty [] := by
  have ha : s.arrayAt? a = some cl := A.fin (Vm.Alike.refl _)
  have hsz : cl.slots.size = 0 := by
    by_cases hl : cl.slots.size < 2 ^ 31
    · have hv := len_f (args := args) (first := s) (o := none) (idx := []) ev ha hl
      have hz : (Term.int 0).eval args s none [] s = some (.int 0) := rfl
      simp only [Cond.value, hv, hz] at h
      have q := len_toInt hl
      have q2 : cl.slots.size.toInt32 = 0 := by simpa using h
      rw [q2] at q
      have : (0 : Int32).toInt = 0 := rfl
      omega
    · exfalso
      cases hf : (Term.length t).eval args s none [] s with
      | none => simp [Cond.value, hf] at h
      | some x => simp [Term.eval, ev, ha, hl] at hf
  exact ⟨cl, A, hsz, fun i hi => absurd hi (Nat.not_lt_zero i)⟩
end Starts
end Jvm.RoadKit
namespace Jvm.Pilot.@@N@@
open Jvm Jvm.ClassFile Sem Op Lib Jvm.Free Jvm.Stand Jvm.LawKit Jvm.RoadKit Bundle Jvm.Pilot.@@N@@.Jvm.D
theorem own_wd {Z : State} {a0 : Array Value} (hw : ∀ d ∈ tables_1, d.before a0 Z = true) (i : Nat) {d : Jvm.Cond} (h : tables_1[i]? = some d) : d.before a0 Z = true := hw d (List.mem_of_getElem? h)
theorem Gl.gen {tb : Tables} {e : Env} {below : List Frame} {P : Outcome → State → Prop} {A : State} (h : ∀ Q : Outcome → State → Prop, Q = P → Gl tb e below Q A) : Gl tb e below P A := h P rfl
def own_EL : List (String × Nat) := consts_1
theorem own_wS {a0 : Array Value} {Z : State} (hw : ∀ d ∈ tables_1, d.before a0 Z = true) : ∀ a ∈ Bundle.stringAtoms, a.before a0 Z = true := by
  intro a ha
  simp only [Bundle.stringAtoms, List.mem_cons, List.not_mem_nil, or_false] at ha
  rcases ha with rfl | rfl | rfl | rfl | rfl | rfl | rfl
  · exact hw _ (List.mem_of_getElem? (i := 8) rfl)
  · exact hw _ (List.mem_of_getElem? (i := 7) rfl)
  · exact hw _ (List.mem_of_getElem? (i := 28) rfl)
  · exact hw _ (List.mem_of_getElem? (i := 38) rfl)
  · exact hw _ (List.mem_of_getElem? (i := 36) rfl)
  · exact hw _ (List.mem_of_getElem? (i := 40) rfl)
  · exact hw _ (List.mem_of_getElem? (i := 41) rfl)
theorem own_chr (c : Int32) (h0 : 0 ≤ c.toInt) (h1 : c.toInt < 65536) : nar .char c = c := by
  show c.toUInt32.toUInt16.toUInt32.toInt32 = c
  apply Int32.toInt_inj.mp
  have := c_i2c c
  omega
theorem own_nb (x : Int32) : (nar .byte (x.toInt8.toInt32)).toInt % 256 = x.toInt % 256 := by
  show ((x.toInt8.toInt32).toInt8.toInt32).toInt % 256 = _
  have a := c_i2b x; have b := c_i2b (x.toInt8.toInt32)
  omega
theorem own_255 (x : Int32) : (x &&& (255 : Int32)).toInt = x.toInt % 256 := c_mask x 255 8 (by decide) (by decide)
theorem own_s0 (x : Int32) : x <<< ((0 : Int32) &&& 31) = x := by
  apply Int32.toInt_inj.mp
  have a := c_ishl x 0 0 (by decide); have b := rng32 x; have c := rng32 (x <<< ((0 : Int32) &&& 31))
  simp only [Nat.pow_zero, Int.ofNat_one, Int.natCast_one, Int.mul_one] at a
  omega
theorem own_s0r (x : Int32) : x >>> ((0 : Int32) &&& 31) = x := by
  apply Int32.toInt_inj.mp
  rw [c_ishr x 0 0 (by decide)]; simp
theorem own_gc (c : Int32) (h0 : 0 ≤ c.toInt) (h1 : c.toInt < 65536) : (nar .char (((((nar .byte ((c >>> ((0 : Int32) &&& 31)).toInt8.toInt32)) &&& (255 : Int32)) <<< ((0 : Int32) &&& 31)) ||| (((nar .byte ((c >>> ((8 : Int32) &&& 31)).toInt8.toInt32)) &&& (255 : Int32)) <<< ((8 : Int32) &&& 31))).toUInt32.toUInt16.toUInt32.toInt32)) = c := by
  have a := own_nb (c >>> ((0 : Int32) &&& 31))
  have b := own_nb (c >>> ((8 : Int32) &&& 31))
  rw [own_s0r] at a
  have b2 := c_ishr c 8 8 (by decide)
  have e1 := own_255 (nar .byte ((c >>> ((0 : Int32) &&& 31)).toInt8.toInt32))
  have e2 := own_255 (nar .byte ((c >>> ((8 : Int32) &&& 31)).toInt8.toInt32))
  have e3 := c_ishl ((nar .byte ((c >>> ((8 : Int32) &&& 31)).toInt8.toInt32)) &&& (255 : Int32)) 8 8 (by decide)
  have e4 := c_or (((nar .byte ((c >>> ((8 : Int32) &&& 31)).toInt8.toInt32)) &&& (255 : Int32)) <<< ((8 : Int32) &&& 31)) ((nar .byte ((c >>> ((0 : Int32) &&& 31)).toInt8.toInt32)) &&& (255 : Int32)) 8 (by decide) 256 (by decide)
  have r1 := rng32 (((nar .byte ((c >>> ((8 : Int32) &&& 31)).toInt8.toInt32)) &&& (255 : Int32)) <<< ((8 : Int32) &&& 31))
  have r2 := rng32 ((((nar .byte ((c >>> ((8 : Int32) &&& 31)).toInt8.toInt32)) &&& (255 : Int32)) <<< ((8 : Int32) &&& 31)) ||| ((nar .byte ((c >>> ((0 : Int32) &&& 31)).toInt8.toInt32)) &&& (255 : Int32)))
  have key : (((nar .byte ((c >>> ((0 : Int32) &&& 31)).toInt8.toInt32)) &&& (255 : Int32)) <<< ((0 : Int32) &&& 31)) ||| (((nar .byte ((c >>> ((8 : Int32) &&& 31)).toInt8.toInt32)) &&& (255 : Int32)) <<< ((8 : Int32) &&& 31)) = c := by
    rw [own_s0, Int32.or_comm]
    apply Int32.toInt_inj.mp
    rw [own_s0r] at *
    omega
  rw [key]
  have q := own_chr c h0 h1
  have q' : c.toUInt32.toUInt16.toUInt32.toInt32 = c := q
  rw [q', q]
theorem own_tni {n : Nat} (h : n < 2 ^ 31) : (n.toInt32).toInt = n := Int32.toInt_ofNat_of_lt h
theorem own_tnn {n : Nat} (h : n < 2 ^ 31) : (n.toInt32).toNatClampNeg = n := by rw [Int32.toNatClampNeg, own_tni h]; rfl
theorem own_tn0 {n : Nat} (h : n < 2 ^ 31) : ¬ n.toInt32 < 0 := by rw [Int32.lt_iff_toInt_lt, own_tni h]; have : (0 : Int32).toInt = 0 := rfl; omega
theorem own_tnS (n : Nat) : n.toInt32 + (1 : Int32) = (n + 1).toInt32 := (Int32.ofNat_add n 1).symm
theorem own_tnA (n k : Nat) : n.toInt32 + k.toInt32 = (n + k).toInt32 := (Int32.ofNat_add n k).symm
theorem own_tn1 (k : Nat) : (1 : Int32) + k.toInt32 = (k + 1).toInt32 := by rw [Nat.add_comm]; exact (Int32.ofNat_add 1 k).symm
theorem own_tn2 (n : Nat) : n.toInt32 + (2 : Int32) = (n + 2).toInt32 := (Int32.ofNat_add n 2).symm
theorem own_tn3 (n : Nat) : n.toInt32 + (3 : Int32) = (n + 3).toInt32 := (Int32.ofNat_add n 3).symm
def own_pad (N : Nat) (ps : List Int32) : List Int32 := ps ++ List.replicate (N - ps.length) 0
theorem own_padl {N : Nat} {ps : List Int32} (h : ps.length ≤ N) : (own_pad N ps).length = N := by unfold own_pad; rw [List.length_append, List.length_replicate]; omega
theorem own_pad1 {N : Nat} {ps : List Int32} {v : Int32} (h : ps.length < N) : (own_pad N ps).set ps.length v = own_pad N (ps ++ [v]) := by
  unfold own_pad
  obtain ⟨k, hk⟩ : ∃ k, N - ps.length = k + 1 := ⟨N - ps.length - 1, by omega⟩
  rw [List.length_append, List.length_singleton, hk, show N - (ps.length + 1) = k by omega, List.replicate_succ, List.set_append_right _ _ (Nat.le_refl _), Nat.sub_self, List.append_assoc]; rfl
theorem own_pad2 {N : Nat} {ps : List Int32} {v w : Int32} (h : ps.length + 1 < N) : ((own_pad N ps).set ps.length v).set (ps.length + 1) w = own_pad N (ps ++ [v, w]) := by
  rw [own_pad1 (by omega), show ps.length + 1 = (ps ++ [v]).length by simp, own_pad1 (by simp; omega), List.append_assoc]; rfl
theorem own_pad3 {N : Nat} {ps : List Int32} {v w x : Int32} (h : ps.length + 2 < N) : (((own_pad N ps).set ps.length v).set (ps.length + 1) w).set (ps.length + 2) x = own_pad N (ps ++ [v, w, x]) := by
  rw [own_pad2 (by omega), show ps.length + 2 = (ps ++ [v, w]).length by simp, own_pad1 (by simp; omega), List.append_assoc]; rfl
theorem own_padg {N : Nat} {gs : List Int32} {i : Nat} (h : i < gs.length) : gs.getD i 0 = (own_pad N gs).getD i 0 := by
  unfold own_pad; rw [List.getD_eq_getElem?_getD, List.getD_eq_getElem?_getD, List.getElem?_append_left h]
theorem own_atl {ij : Int32} {n : Nat} (hn : n < 2 ^ 31) (h0 : ¬ ij < 0) (h : ij < n.toInt32) : ij.toNatClampNeg < n := by
  rw [Int32.lt_iff_toInt_lt] at h0 h
  rw [own_tni hn] at h
  have z : (0 : Int32).toInt = 0 := rfl
  rw [Int32.toNatClampNeg]; omega
theorem own_rng (xs : List Int32) (k : Nat) (h : k ≤ xs.length) : ((List.range k).map fun i => (xs.map Value.int).getD (0 + i) (.int 0)) = (xs.take k).map Value.int := by
  apply List.ext_getElem?
  intro i
  by_cases q : i < k
  · have q2 : i < xs.length := by omega
    simp [q, q2, List.getD_eq_getElem?_getD, List.getElem?_take_of_lt]
  · have q3 : ¬ i < (xs.take k).length := by rw [List.length_take]; omega
    simp [q, List.getElem?_take]
theorem own_nd4 (bs : List Int32) (v : Int32) : ((List.replicate (bs.length + 1) 0).set 0 v).take 1 ++ bs.take bs.length ++ ((List.replicate (bs.length + 1) 0).set 0 v).drop (1 + bs.length) = v :: bs := by
  rw [List.take_length, List.drop_eq_nil_of_le (by simp; omega), List.append_nil, List.replicate_succ]; rfl
theorem own_ws1 (us : List Int32) (n : Nat) : ((List.replicate (us.length + 1 + n) (0 : Int32)).take 0 ++ us.take us.length ++ (List.replicate (us.length + 1 + n) 0).drop (0 + us.length)) = us ++ List.replicate (n + 1) 0 := by
  rw [List.take_length, List.drop_replicate, show us.length + 1 + n - (0 + us.length) = n + 1 by omega]; rfl
theorem own_ws2 (us : List Int32) (n : Nat) (v : Int32) : (us ++ List.replicate (n + 1) (0 : Int32)).set us.length v = us ++ v :: List.replicate n 0 := by
  rw [List.replicate_succ, List.set_append_right _ _ (Nat.le_refl _), Nat.sub_self]; rfl
theorem own_ws3 (us ss : List Int32) (v : Int32) : (us ++ v :: List.replicate ss.length (0 : Int32)).take (us.length + 1) ++ ss.take ss.length ++ (us ++ v :: List.replicate ss.length (0 : Int32)).drop (us.length + 1 + ss.length) = us ++ v :: ss := by
  rw [List.take_length, List.drop_eq_nil_of_le (by simp; omega), List.append_nil, show us ++ v :: List.replicate ss.length (0 : Int32) = (us ++ [v]) ++ List.replicate ss.length 0 by simp, List.take_left' (by simp), List.append_assoc]; rfl
def own_fit (xs : List Int32) : Prop := ∀ x ∈ xs, fits .byte (.int x) = true
theorem own_fit_app {xs ys : List Int32} (h : own_fit xs) (g : own_fit ys) : own_fit (xs ++ ys) := fun x hx => (List.mem_append.mp hx).elim (h x) (g x)
theorem own_fit_cons {x : Int32} {ys : List Int32} (g : own_fit ys) : own_fit (nar .byte x :: ys) := fun z hz => (List.mem_cons.mp hz).elim (fun e => e ▸ fits_nar_byte _) (g z)
theorem own_fit_rep (n : Nat) : own_fit (List.replicate n 0) := fun x hx => by rw [(List.mem_replicate.mp hx).2]; rfl
theorem own_fit_set {xs : List Int32} {i : Nat} {v : Int32} (h : own_fit xs) : own_fit (xs.set i (nar .byte v)) := fun x hx => (List.mem_or_eq_of_mem_set hx).elim (h x) (fun e => e ▸ fits_nar_byte _)
theorem own_fit_nil : own_fit [] := fun _ h => by cases h
theorem own_arvB {Z : State} {h : Heap} {a : Addr} {xs : List Int32} (F : Bal Z h a .byte xs) (hf : own_fit xs) (hl : xs.length < 2 ^ 31) : ∃ k, Arv Z h a k .byte (xs.length.toInt32) (xs.map Value.int) (.int 0) := by
  obtain ⟨c, A, S, H⟩ := F
  refine ⟨c.cls, c, A, rfl, ?_, own_tn0 hl, ?_, ?_⟩
  · rw [S, own_tnn hl]
  · intro i hi'
    rw [S] at hi'
    rw [H i hi']
    simp [List.getD_eq_getElem?_getD, List.getElem?_map, List.getElem?_eq_getElem hi']
  · intro i hi'
    rw [S] at hi'
    have : (xs.map Value.int).getD i (.int 0) = .int xs[i] := by simp [List.getD_eq_getElem?_getD, List.getElem?_map, List.getElem?_eq_getElem hi']
    rw [this]; exact hf _ (List.getElem_mem hi')
theorem own_cpB {p : Program} {l : Launch} {e : Env} {R : Room} {s : State} {m : MethodId} {args : Array Value} {below : List Frame} {meth : Method} {c : Code} {T : State} {locs : List Loc} {cells slots : Nat} {Z : State} {h : Heap} (X : Stand p l e R s m args below meth c T locs cells slots) (hx : p.tables.exec = Jvm.exec) (hZ : Z.Warmed39 s.vm) {a0 : Array Value} {own : String} {index : Nat} (hown : s.vm.findClass own = some m.cls)
    (w1 : (Cond.methodLink own index Jvm.Stand.acN).before a0 Z = true) (w2 : (Cond.native Jvm.Stand.acN).before a0 Z = true) (w3 : (Cond.static Jvm.Stand.acN).before a0 Z = true) (w4 : (Cond.initialized "java/lang/System").before a0 Z = true) (eT : T.heap = h)
    {a b : Addr} {xs ys : List Int32} (A : Bal Z h a .byte xs) (B : Bal Z h b .byte ys) (fa : own_fit xs) (fb : own_fit ys) {dp nn : Int32} {d k : Nat} (hdp : dp = d.toInt32) (hnn : nn = k.toInt32) (h1 : k ≤ xs.length) (h2 : d + k ≤ ys.length) (hlx : xs.length < 2 ^ 31) (hly : ys.length < 2 ^ 31) {n0 : Nat} (N : Fr n0 locs) (ge : n0 ≤ b)
    {g : JFrame} (hg : g.method = m) (hsize : g.locals.size = c.maxLocals) {rest : List Value} (hs : g.stack = .int nn :: .int dp :: .ref b :: .int (0 : Int32) :: .ref a :: rest) (hd : decode c.code g.pc = .ok (.invokestatic index, 3))
    (hf : 1 ≤ R.frames) {W : Nat} (hW : 2 * g.monitorRoom + (rest.map fun v => v.category).sum ≤ W) (hlo : W + (nativeFrameWords "java/lang/System" "arraycopy" 5 + 11) ≤ R.locals) :
    ∃ T' h' L, Stand p l e R s m args below meth c T' L cells slots ∧ T'.heap = h' ∧ Fr n0 L ∧ Keep h h' [b] ∧ Bal Z h' b .byte (ys.take d ++ xs.take k ++ ys.drop (d + k)) ∧
      ∀ target, Steps p.tables e below (T'.setTop { g with pc := g.pc + 3, stack := rest }) target → Steps p.tables e below (T.setTop g) target := by
  subst hdp hnn
  obtain ⟨ka, KA⟩ := own_arvB A fa hlx
  obtain ⟨kb, KB⟩ := own_arvB B fb hly
  have ek : (k.toInt32).toNatClampNeg = k := own_tnn (by omega)
  have ed : (d.toInt32).toNatClampNeg = d := own_tnn (by omega)
  have e0 : (0 : Int32).toNatClampNeg = 0 := rfl
  obtain ⟨T', h', L, X', e', N', K', V', st⟩ := cpA X hx hZ hown w1 w2 w3 w4 eT KA KB (Or.inl ⟨rfl, rfl⟩) (by decide) (own_tn0 (by omega)) (own_tn0 (by omega)) (by rw [e0, ek, own_tnn hlx]; omega) (by rw [ed, ek, own_tnn hly]; exact h2) rfl (by rw [ed, ek, List.length_map]; exact h2) N ge hg hsize hs hd hf hW hlo
  refine ⟨T', h', L, X', e', N', K', ?_, st⟩
  rw [e0, ek, ed, own_rng xs k h1, ← List.map_take, ← List.map_drop, ← List.map_append, ← List.map_append] at V'
  exact own_balOf V' (by rw [own_tnn hly]; simp only [List.length_append, List.length_take, List.length_drop]; omega)
theorem own_balH {Z : State} {h : Heap} {a : Addr} {k : ClassId} {xs : List Int32} (F : Arh Z h a k .byte (xs.length.toInt32) [] (xs.map Value.int) (.int 0)) (hl : xs.length < 2 ^ 31) : Bal Z h a .byte xs := own_balOf (k := k) (z := xs.length.toInt32) F (own_tnn hl)
theorem own_litB {Z s : State} {a0 : Array Value} {EL : List (String × Nat)} {vm : Vm} {h : Heap} {own text : String} {index : Nat} {c : ClassId} {a b : Addr} {k : ClassId} {z : Int32} {vs : List Value} {d : Value} (hZ : Z.Warmed39 (s.setVm vm).vm) (w : (Cond.stringLink own index text).before a0 Z = true) (hf : (s.setVm vm).vm.findClass own = some c)
    (hL : Lit (s.setVm vm) own index a) (hmem : (own, index) ∈ EL) (hC : CHv Z EL vm h) (F : Fld Z h a "java/lang/String" "value" "[B" (.ref b)) (V : Arv Z h b k .byte z vs d) : Exa Z h b "[B" := by
  have hW : Z.Warmed39 vm := hZ
  have hal : Z.vm.Alike vm := hW.alike
  have hf' : vm.findClass own = some c := hf
  have w2 : (Cond.stringLink own index text).before a0 (Wst Z vm h) = true := mvS (s := { Z with heap := h }) hW w
  obtain ⟨k0, cf, i, units, hkx, hcf, hp, hu, -, -, -⟩ := Cond.stringLink_spec (s := Wst Z vm h) hf' w2
  have hk' : vm.classes[c]? = some k0 := hkx
  have hres : k0.resolved[index]? = some (some (.string a)) := by
    have q : (s.setVm vm).resolvedAt? own index = some (.string a) := hL
    simp [State.resolvedAt?, hf', hk'] at q
    rcases hr : k0.resolved[index]? with _ | (_ | r)
    · rw [hr] at q; cases q
    · rw [hr] at q; cases q
    · rw [hr] at q; simpa using q
  obtain ⟨q, cS, rfl, hSl, -, hB, -⟩ := hC _ hmem units a ⟨c, k0, cf, i, hf', hk', hcf, hp, hu, Or.inl hres⟩
  obtain ⟨⟨s1, s2, s3, ⟨cv, kv, iv, s4, s4'⟩, -, s6, -, s8, -, s10, -⟩, -⟩ := hSl
  obtain ⟨kv', z4⟩ := ff_back (U := Wst Z vm h) hal s4
  have F' : Fld Z h q.sa "java/lang/String" "value" "[B" (.ref q.sd) := ⟨q.sC, cv, kv', iv, q.fSV, s1, z4, s6, s2, s3, by rw [← hal.assignable]; exact s4', s8⟩
  have eb : b = q.sd := Classical.byContradiction fun hne => (F.ne F' (fun z => hne (Value.ref.inj z))) rfl
  subst eb
  obtain ⟨cl, A, -⟩ := V
  have ec : cl = q.SA := Option.some.inj (A.1.symm.trans s10)
  subst ec
  have hBZ : Z.vm.findClass "[B" = some q.SA.cls := by rw [← hal.findClass]; exact hB
  obtain ⟨hst, kb, hkb, comp, hkind⟩ := A.2.1
  refine ⟨q.SA, kb, s10, hBZ, hkb, ?_, fun ho => by rw [hkind] at ho; cases ho⟩
  revert hst
  cases q.SA.vm <;> intro hst <;> first | rfl | exact absurd rfl (hst _)
def own_u1 (c : Int32) : List Int32 := if c < (128 : Int32) then [(nar .byte (c.toInt8.toInt32))] else if c < (2048 : Int32) then [(nar .byte (((192 : Int32) ||| (c >>> ((6 : Int32) &&& 31))).toInt8.toInt32)), (nar .byte (((128 : Int32) ||| (c &&& (63 : Int32))).toInt8.toInt32))] else [(nar .byte (((224 : Int32) ||| (c >>> ((12 : Int32) &&& 31))).toInt8.toInt32)), (nar .byte (((128 : Int32) ||| ((c >>> ((6 : Int32) &&& 31)) &&& (63 : Int32))).toInt8.toInt32)), (nar .byte (((128 : Int32) ||| (c &&& (63 : Int32))).toInt8.toInt32))]
def own_u (xs : List Int32) : List Int32 := xs.flatMap own_u1
theorem own_u1a {c : Int32} (h : c < (128 : Int32)) : own_u1 c = [(nar .byte (c.toInt8.toInt32))] := if_pos h
theorem own_u1b {c : Int32} (h : ¬ c < (128 : Int32)) (g : c < (2048 : Int32)) : own_u1 c = [(nar .byte (((192 : Int32) ||| (c >>> ((6 : Int32) &&& 31))).toInt8.toInt32)), (nar .byte (((128 : Int32) ||| (c &&& (63 : Int32))).toInt8.toInt32))] := (if_neg h).trans (if_pos g)
theorem own_u1c {c : Int32} (h : ¬ c < (128 : Int32)) (g : ¬ c < (2048 : Int32)) : own_u1 c = [(nar .byte (((224 : Int32) ||| (c >>> ((12 : Int32) &&& 31))).toInt8.toInt32)), (nar .byte (((128 : Int32) ||| ((c >>> ((6 : Int32) &&& 31)) &&& (63 : Int32))).toInt8.toInt32)), (nar .byte (((128 : Int32) ||| (c &&& (63 : Int32))).toInt8.toInt32))] := (if_neg h).trans (if_neg g)
theorem own_u1l (c : Int32) : (own_u1 c).length ≤ 3 := by
  unfold own_u1; split
  · simp
  · split <;> simp
theorem own_u1l2 {c : Int32} (h : c < (2048 : Int32)) : (own_u1 c).length ≤ 2 := by unfold own_u1; rw [if_pos h]; split <;> simp
theorem own_u1f (c : Int32) : own_fit (own_u1 c) := by
  unfold own_u1; split
  · exact own_fit_cons own_fit_nil
  · split
    · exact own_fit_cons (own_fit_cons own_fit_nil)
    · exact own_fit_cons (own_fit_cons (own_fit_cons own_fit_nil))
theorem own_ue0 : own_u [] = [] := rfl
theorem own_ue1 (a : Int32) : own_u [a] = own_u1 a := by simp [own_u]
theorem own_ue2 (a b : Int32) : own_u [a, b] = own_u1 a ++ own_u1 b := by simp [own_u]
def own_sh (xs : List Int32) : Prop := xs = [] ∨ (∃ a, xs = [a] ∧ (0 ≤ a.toInt ∧ a.toInt < 65536)) ∨ ∃ a b, xs = [a, b] ∧ (0 ≤ a.toInt ∧ a.toInt < 65536) ∧ (0 ≤ b.toInt ∧ b.toInt < 65536)
theorem own_shl {xs : List Int32} (h : own_sh xs) : xs.length ≤ 2 := by rcases h with rfl | ⟨_, rfl, -⟩ | ⟨_, _, rfl, -⟩ <;> simp
theorem own_ul {xs : List Int32} (h : xs.length ≤ 2) : (own_u xs).length ≤ 6 := by
  match xs, h with
  | [], _ => decide
  | [a], _ => have := own_u1l a; rw [own_ue1]; omega
  | [a, b], _ => have := own_u1l a; have := own_u1l b; rw [own_ue2, List.length_append]; omega
theorem own_uf (xs : List Int32) : own_fit (own_u xs) := by
  intro x hx
  obtain ⟨c, -, h⟩ := List.mem_flatMap.mp hx
  exact own_u1f c x h
def own_rep (xs : List Int32) (co : Int32) (ys : List Int32) : Prop :=
  (xs = [] ∧ co = (0 : Int32) ∧ ys = []) ∨ (∃ a, xs = [a] ∧ (0 ≤ a.toInt ∧ a.toInt < 65536) ∧ ¬ ((255 : Int32) < a) ∧ co = (0 : Int32) ∧ ys = [(nar .byte (a.toInt8.toInt32))]) ∨ (∃ a, xs = [a] ∧ (0 ≤ a.toInt ∧ a.toInt < 65536) ∧ (255 : Int32) < a ∧ co = (1 : Int32) ∧ ys = [(nar .byte ((a >>> ((0 : Int32) &&& 31)).toInt8.toInt32)), (nar .byte ((a >>> ((8 : Int32) &&& 31)).toInt8.toInt32))]) ∨ (∃ a b, xs = [a, b] ∧ (0 ≤ a.toInt ∧ a.toInt < 65536) ∧ (0 ≤ b.toInt ∧ b.toInt < 65536) ∧ ¬ ((255 : Int32) < a) ∧ ¬ ((255 : Int32) < b) ∧ co = (0 : Int32) ∧ ys = [(nar .byte (a.toInt8.toInt32)), (nar .byte (b.toInt8.toInt32))]) ∨ (∃ a b, xs = [a, b] ∧ (0 ≤ a.toInt ∧ a.toInt < 65536) ∧ (0 ≤ b.toInt ∧ b.toInt < 65536) ∧ co = (1 : Int32) ∧ ys = [(nar .byte ((a >>> ((0 : Int32) &&& 31)).toInt8.toInt32)), (nar .byte ((a >>> ((8 : Int32) &&& 31)).toInt8.toInt32)), (nar .byte ((b >>> ((0 : Int32) &&& 31)).toInt8.toInt32)), (nar .byte ((b >>> ((8 : Int32) &&& 31)).toInt8.toInt32))])
theorem own_repc {xs : List Int32} {co : Int32} {ys : List Int32} (h : own_rep xs co ys) : co = 0 ∨ co = 1 := by
  rcases h with ⟨-, h, -⟩ | ⟨_, -, -, -, h, -⟩ | ⟨_, -, -, -, h, -⟩ | ⟨_, _, -, -, -, -, -, h, -⟩ | ⟨_, _, -, -, -, h, -⟩ <;> simp [h]
theorem own_lbT {c : Int32} (h : 0 ≤ c.toInt) (g : ¬ ((255 : Int32) < c)) : ((nar .byte (c.toInt8.toInt32))).toInt % 256 = c.toInt ∧ c.toInt < 256 := by
  have a := own_nb c
  rw [Int32.lt_iff_toInt_lt, show (255 : Int32).toInt = 255 from rfl] at g
  omega
theorem own_nbr (x : Int32) : -128 ≤ (nar .byte (x.toInt8.toInt32)).toInt ∧ (nar .byte (x.toInt8.toInt32)).toInt < 128 := by
  show -128 ≤ ((x.toInt8.toInt32).toInt8.toInt32).toInt ∧ ((x.toInt8.toInt32).toInt8.toInt32).toInt < 128
  have b := c_i2b (x.toInt8.toInt32)
  omega
theorem own_lbp {c : Int32} (h : 0 ≤ c.toInt) (g : c < (128 : Int32)) : ¬ ((nar .byte (c.toInt8.toInt32)) < (0 : Int32)) := by
  have a := own_nb c; have b := own_nbr c
  rw [Int32.lt_iff_toInt_lt, show (128 : Int32).toInt = 128 from rfl] at g
  rw [Int32.lt_iff_toInt_lt, show (0 : Int32).toInt = 0 from rfl]
  omega
theorem own_lbn {c : Int32} (h : ¬ ((255 : Int32) < c)) (g : ¬ (c < (128 : Int32))) : (nar .byte (c.toInt8.toInt32)) < (0 : Int32) := by
  have a := own_nb c; have b := own_nbr c
  rw [Int32.lt_iff_toInt_lt, show (255 : Int32).toInt = 255 from rfl] at h
  rw [Int32.lt_iff_toInt_lt, show (128 : Int32).toInt = 128 from rfl] at g
  rw [Int32.lt_iff_toInt_lt, show (0 : Int32).toInt = 0 from rfl]
  omega
theorem own_y255 {c : Int32} (h : 0 ≤ c.toInt) (g : ¬ ((255 : Int32) < c)) : (nar .byte (c.toInt8.toInt32)) &&& (255 : Int32) = c := by
  apply Int32.toInt_inj.mp
  have a := own_lbT h g; have b := own_255 (nar .byte (c.toInt8.toInt32))
  omega
theorem own_y63 (c : Int32) : (nar .byte (c.toInt8.toInt32)) &&& (63 : Int32) = c &&& (63 : Int32) := by
  apply Int32.toInt_inj.mp
  have a := c_mask (nar .byte (c.toInt8.toInt32)) 63 6 (by decide) (by decide); have b := c_mask c 63 6 (by decide) (by decide); have d := own_nb c
  omega
theorem own_nnb (c : Int32) : nar .byte (nar .byte (c.toInt8.toInt32)) = (nar .byte (c.toInt8.toInt32)) := by
  show ((c.toInt8.toInt32).toInt8.toInt32).toInt8.toInt32 = (c.toInt8.toInt32).toInt8.toInt32
  rw [Int8.toInt8_toInt32]
theorem own_g128 {c : Int32} (h : (255 : Int32) < c) : ¬ (c < (128 : Int32)) := by
  rw [Int32.lt_iff_toInt_lt] at *
  have a : (255 : Int32).toInt = 255 := rfl
  have b : (128 : Int32).toInt = 128 := rfl
  omega
theorem own_2048 {c : Int32} (h : ¬ ((255 : Int32) < c)) : c < (2048 : Int32) := by
  rw [Int32.lt_iff_toInt_lt] at *
  have a : (255 : Int32).toInt = 255 := rfl
  have b : (2048 : Int32).toInt = 2048 := rfl
  omega
def own_cs (k a b : Int32) : List Int32 := if k = (0 : Int32) then [] else if k = (1 : Int32) then [a] else [a, b]
theorem own_cs0 {k a b : Int32} (h : k = (0 : Int32)) : [] = own_cs k a b := (if_pos h).symm
theorem own_cs1 {k a b : Int32} (h : ¬ k = (0 : Int32)) (g : k = (1 : Int32)) : [a] = own_cs k a b := by unfold own_cs; rw [if_neg h, if_pos g]
theorem own_cs2 {k a b : Int32} (h : ¬ k = (0 : Int32)) (g : ¬ k = (1 : Int32)) : [a, b] = own_cs k a b := by unfold own_cs; rw [if_neg h, if_neg g]
theorem own_csl (k a b : Int32) : (own_cs k a b).length ≤ 2 := by
  unfold own_cs; split
  · simp
  · split <;> simp
theorem own_csh {k a b : Int32} (ha : 0 ≤ a.toInt ∧ a.toInt < 65536) (hb : 0 ≤ b.toInt ∧ b.toInt < 65536) : own_sh (own_cs k a b) := by
  unfold own_cs; split
  · exact Or.inl rfl
  · split
    · exact Or.inr (Or.inl ⟨a, rfl, ha⟩)
    · exact Or.inr (Or.inr ⟨a, b, rfl, ha, hb⟩)
theorem own_csm {k a b : Int32} {P : Int32 → Prop} (ha : P a) (hb : P b) : ∀ c ∈ own_cs k a b, P c := by
  unfold own_cs; split
  · intro c hc; cases hc
  · split
    · intro c hc; rw [List.mem_singleton.mp hc]; exact ha
    · intro c hc; rcases List.mem_cons.mp hc with rfl | hc
      · exact ha
      · rw [List.mem_singleton.mp hc]; exact hb
theorem own_3 (x : Int32) : ((x &&& (255 : Int32)) % (3 : Int32)) = 0 ∨ ((x &&& (255 : Int32)) % (3 : Int32)) = 1 ∨ ((x &&& (255 : Int32)) % (3 : Int32)) = 2 := by
  have e1 := c_mask x 255 8 (by decide) (by decide)
  have e2 := (c_irem (x &&& (255 : Int32)) 3 3 rfl).1 (by omega)
  have a0 : (0 : Int32).toInt = 0 := rfl
  have a1 : (1 : Int32).toInt = 1 := rfl
  have a2 : (2 : Int32).toInt = 2 := rfl
  simp only [← Int32.toInt_inj, a0, a1, a2]
  omega
theorem own_w0 {k a b : Int32} (hk : k = 0 ∨ k = 1 ∨ k = 2) (h : k < (1 : Int32)) : [] = own_u (own_cs k a b) := by
  rcases hk with rfl | rfl | rfl
  · rfl
  · exact absurd h (by decide)
  · exact absurd h (by decide)
theorem own_w1 {k a b : Int32} (hk : k = 0 ∨ k = 1 ∨ k = 2) (h : ¬ k < (1 : Int32)) (g : k < (2 : Int32)) : own_u1 a = own_u (own_cs k a b) := by
  rcases hk with rfl | rfl | rfl
  · exact absurd (by decide) h
  · exact (own_ue1 a).symm
  · exact absurd g (by decide)
theorem own_w2 {k a b : Int32} (hk : k = 0 ∨ k = 1 ∨ k = 2) (h : ¬ k < (1 : Int32)) (g : ¬ k < (2 : Int32)) : own_u1 a ++ own_u1 b = own_u (own_cs k a b) := by
  rcases hk with rfl | rfl | rfl
  · exact absurd (by decide) h
  · exact absurd (by decide) g
  · exact (own_ue2 a b).symm
theorem own_12 {k : Int32} (h : k < (1 : Int32)) : k < (2 : Int32) := by
  rw [Int32.lt_iff_toInt_lt] at *
  have a : (1 : Int32).toInt = 1 := rfl
  have b : (2 : Int32).toInt = 2 := rfl
  omega
def own_i2c (x : Int32) : Int32 := x.toUInt32.toUInt16.toUInt32.toInt32
def own_pick (b : Int32) : Int32 := if (b &&& (65535 : Int32)) < (55296 : Int32) then own_i2c (b &&& (65535 : Int32)) else if (57343 : Int32) < (b &&& (65535 : Int32)) then own_i2c (b &&& (65535 : Int32)) else own_i2c ((b &&& (65535 : Int32)) - (22528 : Int32))
theorem own_i2cT (x : Int32) : (own_i2c x).toInt = x.toInt % 65536 := by
  have b := c_i2c x
  unfold own_i2c; omega
theorem own_nci (x : Int32) : nar .char (own_i2c x) = own_i2c x := by
  apply own_chr <;> rw [own_i2cT] <;> omega
theorem own_pickr (b : Int32) : (0 ≤ (own_pick b).toInt ∧ (own_pick b).toInt < 65536) ∧ (own_pick b < (55296 : Int32) ∨ ¬ (own_pick b < (57344 : Int32))) := by
  have m := c_mask b 65535 16 (by decide) (by decide)
  have e1 : (55296 : Int32).toInt = 55296 := rfl
  have e2 : (57344 : Int32).toInt = 57344 := rfl
  have e3 : (57343 : Int32).toInt = 57343 := rfl
  have e4 : (22528 : Int32).toInt = 22528 := rfl
  have q1 := own_i2cT (b &&& (65535 : Int32))
  have q2 := own_i2cT ((b &&& (65535 : Int32)) - (22528 : Int32))
  have q3 := c_isub (b &&& (65535 : Int32)) (22528 : Int32)
  have q4 := rng32 ((b &&& (65535 : Int32)) - (22528 : Int32))
  unfold own_pick
  split
  · rename_i h; rw [Int32.lt_iff_toInt_lt] at h
    refine ⟨by omega, Or.inl ?_⟩
    rw [Int32.lt_iff_toInt_lt]; omega
  · split
    · rename_i h g; rw [Int32.lt_iff_toInt_lt] at h g
      refine ⟨by omega, Or.inr ?_⟩
      rw [Int32.lt_iff_toInt_lt]; omega
    · rename_i h g; rw [Int32.lt_iff_toInt_lt] at h g
      refine ⟨by omega, Or.inl ?_⟩
      rw [Int32.lt_iff_toInt_lt]; omega
theorem own_lenS {ps : List Int32} {v : Int32} : ps.length.toInt32 + (1 : Int32) = (ps ++ [v]).length.toInt32 := by rw [own_tnS, List.length_append, List.length_singleton]
theorem own_appc {ps qs bs cs : List Int32} (h : bs = cs) (g : qs = ps ++ bs) : qs = ps ++ cs := by rw [g, h]
theorem own_evR {args : Array Value} {s : State} {t u : Term} {b : Addr} (eu : u.eval args s none [] s = some (.ref b)) (h : (Cond.eq t u).value args s none s [] = some true) : t.eval args s none [] s = some (.ref b) := by
  cases hf : t.eval args s none [] s with
  | none => simp [Cond.value, hf] at h
  | some x =>
    cases x <;> simp [Cond.value, hf, eu] at h
    rw [h]
section YSteps
variable {p : Program} {l : Launch} {e : Env} {R : Room} {s : State} {m : MethodId} {args : Array Value} {below : List Frame} {meth : Method} {c : Code} {T : State} {locs : List Loc} {cells slots : Nat} {P : Outcome → State → Prop} {pc : Nat} {Ls : Array Slot} {S : List Value}
theorem Y.aconstNull (X : Stand p l e R s m args below meth c T locs cells slots) (hx : p.tables.exec = Jvm.exec) (hd : decode c.code pc = .ok (.aconst_null, 1)) (gl : Gl p.tables e below P (T.setTop (mkF m (pc + 1) (Ls) (.null :: S)))) : Gl p.tables e below P (T.setTop (mkF m pc Ls S)) := Gl.pre (fun _ k => XS.aconstNull X.here hx rfl hd k) gl
theorem Y.aload (X : Stand p l e R s m args below meth c T locs cells slots) (hx : p.tables.exec = Jvm.exec) {k : Nat} {v : Value} (hd : decode c.code pc = .ok (.aload k, 2)) (hl : Ls[k]? = some (.val v)) (hv : v.isRef = true) (gl : Gl p.tables e below P (T.setTop (mkF m (pc + 2) (Ls) (v :: S)))) : Gl p.tables e below P (T.setTop (mkF m pc Ls S)) := Gl.pre (fun _ k => XS.aload X.here hx rfl hd hl hv k) gl
theorem Y.aloadN (X : Stand p l e R s m args below meth c T locs cells slots) (hx : p.tables.exec = Jvm.exec) {k : Fin 4} {v : Value} (hd : decode c.code pc = .ok (.aload_n k, 1)) (hl : Ls[k.val]? = some (.val v)) (hv : v.isRef = true) (gl : Gl p.tables e below P (T.setTop (mkF m (pc + 1) (Ls) (v :: S)))) : Gl p.tables e below P (T.setTop (mkF m pc Ls S)) := Gl.pre (fun _ k => XS.aloadN X.here hx rfl hd hl hv k) gl
theorem Y.astore (X : Stand p l e R s m args below meth c T locs cells slots) (hx : p.tables.exec = Jvm.exec) {k : Nat} {x : Value} {rest : List Value} {l' : Array Slot} (hd : decode c.code pc = .ok (.astore k, 2)) (hs : S = x :: rest) (hv : x.isRef = true) (hl : storeLocals Ls k x = some l') (gl : Gl p.tables e below P (T.setTop (mkF m (pc + 2) (l') (rest)))) : Gl p.tables e below P (T.setTop (mkF m pc Ls S)) := Gl.pre (fun _ k => XS.astore X.here hx rfl hd hs hv hl k) gl
theorem Y.astoreN (X : Stand p l e R s m args below meth c T locs cells slots) (hx : p.tables.exec = Jvm.exec) {k : Fin 4} {x : Value} {rest : List Value} {l' : Array Slot} (hd : decode c.code pc = .ok (.astore_n k, 1)) (hs : S = x :: rest) (hv : x.isRef = true) (hl : storeLocals Ls k.val x = some l') (gl : Gl p.tables e below P (T.setTop (mkF m (pc + 1) (l') (rest)))) : Gl p.tables e below P (T.setTop (mkF m pc Ls S)) := Gl.pre (fun _ k => XS.astoreN X.here hx rfl hd hs hv hl k) gl
theorem Y.bipush (X : Stand p l e R s m args below meth c T locs cells slots) (hx : p.tables.exec = Jvm.exec) {i : Int} (hd : decode c.code pc = .ok (.bipush i, 2)) (gl : Gl p.tables e below P (T.setTop (mkF m (pc + 2) (Ls) (.int (Int8.ofInt i).toInt32 :: S)))) : Gl p.tables e below P (T.setTop (mkF m pc Ls S)) := Gl.pre (fun _ k => XS.bipush X.here hx rfl hd k) gl
theorem Y.dup (X : Stand p l e R s m args below meth c T locs cells slots) (hx : p.tables.exec = Jvm.exec) {x : Value} {rest : List Value} (hd : decode c.code pc = .ok (.dup, 1)) (hs : S = x :: rest) (hc : x.category = 1) (gl : Gl p.tables e below P (T.setTop (mkF m (pc + 1) (Ls) (x :: x :: rest)))) : Gl p.tables e below P (T.setTop (mkF m pc Ls S)) := Gl.pre (fun _ k => XS.dup X.here hx rfl hd hs hc k) gl
theorem Y.goto (X : Stand p l e R s m args below meth c T locs cells slots) (hx : p.tables.exec = Jvm.exec) {o : Int} {pc0 pc' : Nat} (hpc : pc = pc0) (hd : decode c.code pc = .ok (.goto o, 3)) (ho : 0 ≤ (pc0 : Int) + o) (hp : ((pc0 : Int) + o).toNat = pc') (gl : Gl p.tables e below P (T.setTop (mkF m (pc') (Ls) (S)))) : Gl p.tables e below P (T.setTop (mkF m pc Ls S)) := Gl.pre (fun _ k => XS.goto X.here hx rfl hpc hd ho hp k) gl
theorem Y.i2b (X : Stand p l e R s m args below meth c T locs cells slots) (hx : p.tables.exec = Jvm.exec) {v : Int32} {rest : List Value} (hd : decode c.code pc = .ok (.i2b, 1)) (hs : S = .int v :: rest) (gl : Gl p.tables e below P (T.setTop (mkF m (pc + 1) (Ls) (.int (v.toInt8.toInt32) :: rest)))) : Gl p.tables e below P (T.setTop (mkF m pc Ls S)) := Gl.pre (fun _ k => XS.i2b X.here hx rfl hd hs k) gl
theorem Y.i2c (X : Stand p l e R s m args below meth c T locs cells slots) (hx : p.tables.exec = Jvm.exec) {v : Int32} {rest : List Value} (hd : decode c.code pc = .ok (.i2c, 1)) (hs : S = .int v :: rest) (gl : Gl p.tables e below P (T.setTop (mkF m (pc + 1) (Ls) (.int (v.toUInt32.toUInt16.toUInt32.toInt32) :: rest)))) : Gl p.tables e below P (T.setTop (mkF m pc Ls S)) := Gl.pre (fun _ k => XS.i2c X.here hx rfl hd hs k) gl
theorem Y.iadd (X : Stand p l e R s m args below meth c T locs cells slots) (hx : p.tables.exec = Jvm.exec) {x y : Int32} {rest : List Value} (hd : decode c.code pc = .ok (.iadd, 1)) (hs : S = .int y :: .int x :: rest) (gl : Gl p.tables e below P (T.setTop (mkF m (pc + 1) (Ls) (.int (x + y) :: rest)))) : Gl p.tables e below P (T.setTop (mkF m pc Ls S)) := Gl.pre (fun _ k => XS.iadd X.here hx rfl hd hs k) gl
theorem Y.iand (X : Stand p l e R s m args below meth c T locs cells slots) (hx : p.tables.exec = Jvm.exec) {x y : Int32} {rest : List Value} (hd : decode c.code pc = .ok (.iand, 1)) (hs : S = .int y :: .int x :: rest) (gl : Gl p.tables e below P (T.setTop (mkF m (pc + 1) (Ls) (.int (x &&& y) :: rest)))) : Gl p.tables e below P (T.setTop (mkF m pc Ls S)) := Gl.pre (fun _ k => XS.iand X.here hx rfl hd hs k) gl
theorem Y.icmpNo (X : Stand p l e R s m args below meth c T locs cells slots) (hx : p.tables.exec = Jvm.exec) {cd : ClassFile.Cond} {o : Int} {x y : Int32} {rest : List Value} (hd : decode c.code pc = .ok (.if_icmp cd o, 3)) (hs : S = .int y :: .int x :: rest) (hc : if_icmp.holds cd x y = false) (gl : Gl p.tables e below P (T.setTop (mkF m (pc + 3) (Ls) (rest)))) : Gl p.tables e below P (T.setTop (mkF m pc Ls S)) := Gl.pre (fun _ k => XS.icmpNo X.here hx rfl hd hs hc k) gl
theorem Y.icmpYes (X : Stand p l e R s m args below meth c T locs cells slots) (hx : p.tables.exec = Jvm.exec) {cd : ClassFile.Cond} {x y : Int32} {rest : List Value} {o : Int} {pc0 pc' : Nat} (hpc : pc = pc0) (hd : decode c.code pc = .ok (.if_icmp cd o, 3)) (hs : S = .int y :: .int x :: rest) (hc : if_icmp.holds cd x y = true) (ho : 0 ≤ (pc0 : Int) + o) (hp : ((pc0 : Int) + o).toNat = pc') (gl : Gl p.tables e below P (T.setTop (mkF m (pc') (Ls) (rest)))) : Gl p.tables e below P (T.setTop (mkF m pc Ls S)) := Gl.pre (fun _ k => XS.icmpYes X.here hx rfl hpc hd hs hc ho hp k) gl
theorem Y.iconst (X : Stand p l e R s m args below meth c T locs cells slots) (hx : p.tables.exec = Jvm.exec) {i : Int} (hd : decode c.code pc = .ok (.iconst i, 1)) (gl : Gl p.tables e below P (T.setTop (mkF m (pc + 1) (Ls) (.int (Int32.ofInt i) :: S)))) : Gl p.tables e below P (T.setTop (mkF m pc Ls S)) := Gl.pre (fun _ k => XS.iconst X.here hx rfl hd k) gl
theorem Y.ifNo (X : Stand p l e R s m args below meth c T locs cells slots) (hx : p.tables.exec = Jvm.exec) {cd : ClassFile.Cond} {o : Int} {x : Int32} {rest : List Value} (hd : decode c.code pc = .ok (.ifCond cd o, 3)) (hs : S = .int x :: rest) (hc : ifCond.holds cd x = false) (gl : Gl p.tables e below P (T.setTop (mkF m (pc + 3) (Ls) (rest)))) : Gl p.tables e below P (T.setTop (mkF m pc Ls S)) := Gl.pre (fun _ k => XS.ifNo X.here hx rfl hd hs hc k) gl
theorem Y.ifYes (X : Stand p l e R s m args below meth c T locs cells slots) (hx : p.tables.exec = Jvm.exec) {cd : ClassFile.Cond} {x : Int32} {rest : List Value} {o : Int} {pc0 pc' : Nat} (hpc : pc = pc0) (hd : decode c.code pc = .ok (.ifCond cd o, 3)) (hs : S = .int x :: rest) (hc : ifCond.holds cd x = true) (ho : 0 ≤ (pc0 : Int) + o) (hp : ((pc0 : Int) + o).toNat = pc') (gl : Gl p.tables e below P (T.setTop (mkF m (pc') (Ls) (rest)))) : Gl p.tables e below P (T.setTop (mkF m pc Ls S)) := Gl.pre (fun _ k => XS.ifYes X.here hx rfl hpc hd hs hc ho hp k) gl
theorem Y.ifnonnullYes (X : Stand p l e R s m args below meth c T locs cells slots) (hx : p.tables.exec = Jvm.exec) {b : Addr} {rest : List Value} {o : Int} {pc0 pc' : Nat} (hpc : pc = pc0) (hd : decode c.code pc = .ok (.ifnonnull o, 3)) (hs : S = .ref b :: rest) (ho : 0 ≤ (pc0 : Int) + o) (hp : ((pc0 : Int) + o).toNat = pc') (gl : Gl p.tables e below P (T.setTop (mkF m (pc') (Ls) (rest)))) : Gl p.tables e below P (T.setTop (mkF m pc Ls S)) := Gl.pre (fun _ k => XS.ifnonnullYes X.here hx rfl hpc hd hs ho hp k) gl
theorem Y.ifnullNo (X : Stand p l e R s m args below meth c T locs cells slots) (hx : p.tables.exec = Jvm.exec) {o : Int} {b : Addr} {rest : List Value} (hd : decode c.code pc = .ok (.ifnull o, 3)) (hs : S = .ref b :: rest) (gl : Gl p.tables e below P (T.setTop (mkF m (pc + 3) (Ls) (rest)))) : Gl p.tables e below P (T.setTop (mkF m pc Ls S)) := Gl.pre (fun _ k => XS.ifnullNo X.here hx rfl hd hs k) gl
theorem Y.iinc (X : Stand p l e R s m args below meth c T locs cells slots) (hx : p.tables.exec = Jvm.exec) {k : Nat} {cst : Int} {x : Int32} {l' : Array Slot} (hd : decode c.code pc = .ok (.iinc k cst, 3)) (hl : Ls[k]? = some (.val (.int x))) (hl' : storeLocals Ls k (.int (x + Int32.ofInt cst)) = some l') (gl : Gl p.tables e below P (T.setTop (mkF m (pc + 3) (l') (S)))) : Gl p.tables e below P (T.setTop (mkF m pc Ls S)) := Gl.pre (fun _ k => XS.iinc X.here hx rfl hd hl hl' k) gl
theorem Y.iload (X : Stand p l e R s m args below meth c T locs cells slots) (hx : p.tables.exec = Jvm.exec) {k : Nat} {v : Int32} (hd : decode c.code pc = .ok (.iload k, 2)) (hl : Ls[k]? = some (.val (.int v))) (gl : Gl p.tables e below P (T.setTop (mkF m (pc + 2) (Ls) (.int v :: S)))) : Gl p.tables e below P (T.setTop (mkF m pc Ls S)) := Gl.pre (fun _ k => XS.iload X.here hx rfl hd hl k) gl
theorem Y.iloadN (X : Stand p l e R s m args below meth c T locs cells slots) (hx : p.tables.exec = Jvm.exec) {k : Fin 4} {v : Int32} (hd : decode c.code pc = .ok (.iload_n k, 1)) (hl : Ls[k.val]? = some (.val (.int v))) (gl : Gl p.tables e below P (T.setTop (mkF m (pc + 1) (Ls) (.int v :: S)))) : Gl p.tables e below P (T.setTop (mkF m pc Ls S)) := Gl.pre (fun _ k => XS.iloadN X.here hx rfl hd hl k) gl
theorem Y.imul (X : Stand p l e R s m args below meth c T locs cells slots) (hx : p.tables.exec = Jvm.exec) {x y : Int32} {rest : List Value} (hd : decode c.code pc = .ok (.imul, 1)) (hs : S = .int y :: .int x :: rest) (gl : Gl p.tables e below P (T.setTop (mkF m (pc + 1) (Ls) (.int (x * y) :: rest)))) : Gl p.tables e below P (T.setTop (mkF m pc Ls S)) := Gl.pre (fun _ k => XS.imul X.here hx rfl hd hs k) gl
theorem Y.ior (X : Stand p l e R s m args below meth c T locs cells slots) (hx : p.tables.exec = Jvm.exec) {x : Int32} {y : Int32} {rest : List Value} (hd : decode c.code pc = .ok (.ior, 1)) (hs : S = .int y :: .int x :: rest) (gl : Gl p.tables e below P (T.setTop (mkF m (pc + 1) (Ls) (.int (x ||| y) :: rest)))) : Gl p.tables e below P (T.setTop (mkF m pc Ls S)) := Gl.pre (fun _ k => XS.ior X.here hx rfl hd hs k) gl
theorem Y.ishl (X : Stand p l e R s m args below meth c T locs cells slots) (hx : p.tables.exec = Jvm.exec) {x : Int32} {y : Int32} {rest : List Value} (hd : decode c.code pc = .ok (.ishl, 1)) (hs : S = .int y :: .int x :: rest) (gl : Gl p.tables e below P (T.setTop (mkF m (pc + 1) (Ls) (.int (x <<< (y &&& 31)) :: rest)))) : Gl p.tables e below P (T.setTop (mkF m pc Ls S)) := Gl.pre (fun _ k => XS.ishl X.here hx rfl hd hs k) gl
theorem Y.ishr (X : Stand p l e R s m args below meth c T locs cells slots) (hx : p.tables.exec = Jvm.exec) {x : Int32} {y : Int32} {rest : List Value} (hd : decode c.code pc = .ok (.ishr, 1)) (hs : S = .int y :: .int x :: rest) (gl : Gl p.tables e below P (T.setTop (mkF m (pc + 1) (Ls) (.int (x >>> (y &&& 31)) :: rest)))) : Gl p.tables e below P (T.setTop (mkF m pc Ls S)) := Gl.pre (fun _ k => XS.ishr X.here hx rfl hd hs k) gl
theorem Y.istore (X : Stand p l e R s m args below meth c T locs cells slots) (hx : p.tables.exec = Jvm.exec) {k : Nat} {x : Int32} {rest : List Value} {l' : Array Slot} (hd : decode c.code pc = .ok (.istore k, 2)) (hs : S = .int x :: rest) (hl : storeLocals Ls k (.int x) = some l') (gl : Gl p.tables e below P (T.setTop (mkF m (pc + 2) (l') (rest)))) : Gl p.tables e below P (T.setTop (mkF m pc Ls S)) := Gl.pre (fun _ k => XS.istore X.here hx rfl hd hs hl k) gl
theorem Y.istoreN (X : Stand p l e R s m args below meth c T locs cells slots) (hx : p.tables.exec = Jvm.exec) {k : Fin 4} {x : Int32} {rest : List Value} {l' : Array Slot} (hd : decode c.code pc = .ok (.istore_n k, 1)) (hs : S = .int x :: rest) (hl : storeLocals Ls k.val (.int x) = some l') (gl : Gl p.tables e below P (T.setTop (mkF m (pc + 1) (l') (rest)))) : Gl p.tables e below P (T.setTop (mkF m pc Ls S)) := Gl.pre (fun _ k => XS.istoreN X.here hx rfl hd hs hl k) gl
theorem Y.isub (X : Stand p l e R s m args below meth c T locs cells slots) (hx : p.tables.exec = Jvm.exec) {x y : Int32} {rest : List Value} (hd : decode c.code pc = .ok (.isub, 1)) (hs : S = .int y :: .int x :: rest) (gl : Gl p.tables e below P (T.setTop (mkF m (pc + 1) (Ls) (.int (x - y) :: rest)))) : Gl p.tables e below P (T.setTop (mkF m pc Ls S)) := Gl.pre (fun _ k => XS.isub X.here hx rfl hd hs k) gl
theorem Y.iushr (X : Stand p l e R s m args below meth c T locs cells slots) (hx : p.tables.exec = Jvm.exec) {x : Int32} {y : Int32} {rest : List Value} (hd : decode c.code pc = .ok (.iushr, 1)) (hs : S = .int y :: .int x :: rest) (gl : Gl p.tables e below P (T.setTop (mkF m (pc + 1) (Ls) (.int ((x.toUInt32 >>> (y &&& 31).toUInt32).toInt32) :: rest)))) : Gl p.tables e below P (T.setTop (mkF m pc Ls S)) := Gl.pre (fun _ k => XS.iushr X.here hx rfl hd hs k) gl
theorem Y.sipush (X : Stand p l e R s m args below meth c T locs cells slots) (hx : p.tables.exec = Jvm.exec) {i : Int} (hd : decode c.code pc = .ok (.sipush i, 3)) (gl : Gl p.tables e below P (T.setTop (mkF m (pc + 3) (Ls) (.int (Int16.ofInt i).toInt32 :: S)))) : Gl p.tables e below P (T.setTop (mkF m pc Ls S)) := Gl.pre (fun _ k => XS.sipush X.here hx rfl hd k) gl
end YSteps
theorem pd_0 : parseMethodDescriptor "(I)I" = some ⟨[.int], some .int⟩ := by decide +kernel
theorem pd_1 : parseMethodDescriptor "(I)[B" = some ⟨[.int], some (.array .byte)⟩ := by decide +kernel
theorem pd_2 : parseMethodDescriptor "([BII)V" = some ⟨[(.array .byte), .int, .int], none⟩ := by decide +kernel
theorem pd_3 : parseMethodDescriptor "([CI[BII)I" = some ⟨[(.array .char), .int, (.array .byte), .int, .int], some .int⟩ := by decide +kernel
theorem pd_4 : parseMethodDescriptor "([CII)[B" = some ⟨[(.array .char), .int, .int], some (.array .byte)⟩ := by decide +kernel
theorem pd_5 : parseMethodDescriptor "([BI)C" = some ⟨[(.array .byte), .int], some .char⟩ := by decide +kernel
theorem pd_6 : parseMethodDescriptor "([BI)B" = some ⟨[(.array .byte), .int], some .byte⟩ := by decide +kernel
theorem pd_7 : parseMethodDescriptor "([CIILjava/lang/Void;)V" = some ⟨[(.array .char), .int, .int, (.object "java/lang/Void")], none⟩ := by decide +kernel
theorem pd_8 : parseMethodDescriptor "([BII)I" = some ⟨[(.array .byte), .int, .int], some .int⟩ := by decide +kernel
theorem pd_9 : parseMethodDescriptor "(II)I" = some ⟨[.int, .int], some .int⟩ := by decide +kernel
theorem pd_10 : parseMethodDescriptor "([BI)[B" = some ⟨[(.array .byte), .int], some (.array .byte)⟩ := by decide +kernel
theorem pd_11 : parseMethodDescriptor "(C)Z" = some ⟨[.char], some .boolean⟩ := by decide +kernel
theorem pd_12 : parseMethodDescriptor "([BII)Z" = some ⟨[(.array .byte), .int, .int], some .boolean⟩ := by decide +kernel
theorem pd_13 : parseMethodDescriptor "([BZ)[B" = some ⟨[(.array .byte), .boolean], some (.array .byte)⟩ := by decide +kernel
theorem pd_14 : parseMethodDescriptor "(B[BZ)[B" = some ⟨[.byte, (.array .byte), .boolean], some (.array .byte)⟩ := by decide +kernel
theorem pd_15 : parseMethodDescriptor "()B" = some ⟨[], some .byte⟩ := by decide +kernel
theorem pd_16 : parseMethodDescriptor "(Ljava/nio/charset/Charset;B[B)[B" = some ⟨[(.object "java/nio/charset/Charset"), .byte, (.array .byte)], some (.array .byte)⟩ := by decide +kernel
theorem pd_17 : parseMethodDescriptor "(Ljava/nio/charset/Charset;)[B" = some ⟨[(.object "java/nio/charset/Charset")], some (.array .byte)⟩ := by decide +kernel
theorem pd_18 : parseMethodDescriptor "(Ljava/lang/String;B[B)[B" = some ⟨[(.object "java/lang/String"), .byte, (.array .byte)], some (.array .byte)⟩ := by decide +kernel
theorem pd_19 : parseMethodDescriptor "(Ljava/lang/String;[B)[B" = some ⟨[(.object "java/lang/String"), (.array .byte)], some (.array .byte)⟩ := by decide +kernel
theorem pd_20 : parseMethodDescriptor "(I)C" = some ⟨[.int], some .char⟩ := by decide +kernel
theorem pd_21 : parseMethodDescriptor "(ICC)[C" = some ⟨[.int, .char, .char], some (.array .char)⟩ := by decide +kernel
theorem pd_22 : parseMethodDescriptor "([C)V" = some ⟨[(.array .char)], none⟩ := by decide +kernel
theorem pd_23 : parseMethodDescriptor "([BIC)I" = some ⟨[(.array .byte), .int, .char], some .int⟩ := by decide +kernel
theorem pd_24 : parseMethodDescriptor "(Ljava/lang/String;Ljava/lang/String;)[B" = some ⟨[(.object "java/lang/String"), (.object "java/lang/String")], some (.array .byte)⟩ := by decide +kernel
theorem pd_25 : parseMethodDescriptor "([B[BII)Z" = some ⟨[(.array .byte), (.array .byte), .int, .int], some .boolean⟩ := by decide +kernel
theorem d7_0 : decode jdk_52_method_21_code 0 = .ok (.iconst 0, 1) := by decide +kernel
theorem d7_1 : decode jdk_52_method_21_code 1 = .ok (.istore 5, 2) := by decide +kernel
theorem d7_3 : decode jdk_52_method_21_code 3 = .ok (.iload 5, 2) := by decide +kernel
theorem d7_5 : decode jdk_52_method_21_code 5 = .ok (.iload 4, 2) := by decide +kernel
theorem d7_7 : decode jdk_52_method_21_code 7 = .ok (.if_icmp .ge 37, 3) := by decide +kernel
theorem d7_10 : decode jdk_52_method_21_code 10 = .ok (.aload_n 0, 1) := by decide +kernel
theorem d7_11 : decode jdk_52_method_21_code 11 = .ok (.iload_n 1, 1) := by decide +kernel
theorem d7_12 : decode jdk_52_method_21_code 12 = .ok (.caload, 1) := by decide +kernel
theorem d7_13 : decode jdk_52_method_21_code 13 = .ok (.istore 6, 2) := by decide +kernel
theorem d7_15 : decode jdk_52_method_21_code 15 = .ok (.iload 6, 2) := by decide +kernel
theorem d7_17 : decode jdk_52_method_21_code 17 = .ok (.sipush 255, 3) := by decide +kernel
theorem d7_20 : decode jdk_52_method_21_code 20 = .ok (.if_icmp .le 6, 3) := by decide +kernel
theorem d7_23 : decode jdk_52_method_21_code 23 = .ok (.iload 5, 2) := by decide +kernel
theorem d7_25 : decode jdk_52_method_21_code 25 = .ok (.ireturn, 1) := by decide +kernel
theorem d7_26 : decode jdk_52_method_21_code 26 = .ok (.aload_n 2, 1) := by decide +kernel
theorem d7_27 : decode jdk_52_method_21_code 27 = .ok (.iload_n 3, 1) := by decide +kernel
theorem d7_28 : decode jdk_52_method_21_code 28 = .ok (.iload 6, 2) := by decide +kernel
theorem d7_30 : decode jdk_52_method_21_code 30 = .ok (.i2b, 1) := by decide +kernel
theorem d7_31 : decode jdk_52_method_21_code 31 = .ok (.bastore, 1) := by decide +kernel
theorem d7_32 : decode jdk_52_method_21_code 32 = .ok (.iinc 1 1, 3) := by decide +kernel
theorem d7_35 : decode jdk_52_method_21_code 35 = .ok (.iinc 3 1, 3) := by decide +kernel
theorem d7_38 : decode jdk_52_method_21_code 38 = .ok (.iinc 5 1, 3) := by decide +kernel
theorem d7_41 : decode jdk_52_method_21_code 41 = .ok (.goto (-38), 3) := by decide +kernel
theorem d7_44 : decode jdk_52_method_21_code 44 = .ok (.iload 4, 2) := by decide +kernel
theorem d7_46 : decode jdk_52_method_21_code 46 = .ok (.ireturn, 1) := by decide +kernel
theorem pn_7 : plainName "java/lang/StringUTF16" = true := by first | (simp [plainName, overriddenIn]; done) | decide +kernel
theorem ef_cz1_1 (m : MethodId) (a1 : Addr) (a2 : Addr) (c0 : Int32) : entryFrame m #[(.ref a1), (.int (0 : Int32)), (.ref a2), (.int (0 : Int32)), (.int (1 : Int32))] 7 = mkF m 0 #[.val (.ref a1), .val (.int (0 : Int32)), .val (.ref a2), .val (.int (0 : Int32)), .val (.int (1 : Int32)), .unset, .unset] [] := by first | (simp [entryFrame, mkF, argsToLocals, Value.category]; done) | rfl
def Qcz1_1 (Z : State) (a1 : Addr) (a2 : Addr) (c0 : Int32) (h0 : Heap) (n0 : Nat) (v : Option Value) (h : Heap) (L : List Loc) : Prop := v = some (.int (1 : Int32)) ∧ Fr n0 L ∧ Keep h0 h [a2] ∧ Bal Z h a2 .byte [(nar .byte (c0.toInt8.toInt32))]
set_option maxRecDepth 65536 in
set_option maxHeartbeats 40000000 in
theorem rmcz1_1 (l : Launch) (Z : State) (a0 : Array Value) (hw : ∀ d ∈ tables_1, d.before a0 Z = true) (ws : List Jvm.Cond) (a1 : Addr) (a2 : Addr) (c0 : Int32) (h0 : Heap) (n0 : Nat) (Z0 : n0 ≤ h0.size) (V_a1 : Bal Z h0 a1 .char [c0]) (V_a2 : Bal Z h0 a2 .byte [(0 : Int32)]) (g_a2 : n0 ≤ a2) (own_ne_a1_a2 : a1 ≠ a2) (own_ne_a2_a1 : a2 ≠ a1) (hc0 : ¬ ((255 : Int32) < c0)) :
    MetFree l (⟨"java/lang/StringUTF16", "compress", "([CI[BII)I"⟩ : MethodName) (head1 (Jvm.Cond.code (⟨"java/lang/StringUTF16", "compress", "([CI[BII)I"⟩ : MethodName) jdk_52_method_21_code 7 (some .int) :: ws) ({ frames := 0, cells := 0, slots := 0, locals := 0 } : Room)) (fun a U => a = #[(.ref a1), (.int (0 : Int32)), (.ref a2), (.int (0 : Int32)), (.int (1 : Int32))] ∧ Z.Warmed39 U.vm ∧ U.heap = h0) (fun _ _ _ _ _ => True) (fun _ U o U' => ∃ v L, o = .returned v ∧ Qcz1_1 Z a1 a2 c0 h0 n0 v U'.heap L ∧ FrameEnd U o U' L ({ frames := 0, cells := 0, slots := 0, locals := 0 } : Room).cells ({ frames := 0, cells := 0, slots := 0, locals := 0 } : Room).slots) := by
  have W := @own_wd Z a0 hw
  refine MetFree.of_bodySF (plainFor_of_name pn_7) hisR ?_
  intro p e s m args below meth c s₁ Bd hml0 hP hK
  obtain ⟨rfl, hZ, hh⟩ := hP
  have hx := Bd.exec
  have hby := Bd.bytes
  have hlk : meth.locks = false := BodyLoose.notSynchronized Bd
  have hml : c.maxLocals = 7 := hml0
  have hown : s.vm.findClass "java/lang/StringUTF16" = some m.cls := findClass_of_methodNamed Bd.named
  have hnm := (name_of_methodNamed Bd.named Bd.method).1
  have X0 : Stand p l e ({ frames := 0, cells := 0, slots := 0, locals := 0 } : Room) s m #[(.ref a1), (.int (0 : Int32)), (.ref a2), (.int (0 : Int32)), (.int (1 : Int32))] below meth c s₁ [] 0 0 := Stand.of_body Bd
  have e0 : s₁.heap = h0 := by rw [← hh, Bd.state]; rfl
  have N0 := Fr.nil n0
  show Gl p.tables e below _ _
  refine Gl.pre (fun t k => castTop (ef_cz1_1 m a1 a2 c0) k) ?_
  refine Gl.gen (fun PP hPP => ?_)
  have K0 : Keep h0 h0 [a2] := Keep.refl h0 _
  show Gl p.tables e below PP (s₁.setTop (mkF m 0 #[.val (.ref a1), .val (.int (0 : Int32)), .val (.ref a2), .val (.int (0 : Int32)), .val (.int (1 : Int32)), .unset, .unset] []))
  refine Y.iconst X0 hx (hb hby d7_0) ?_
  refine Y.istore X0 hx (hb hby d7_1) rfl (l' := #[.val (.ref a1), .val (.int (0 : Int32)), .val (.ref a2), .val (.int (0 : Int32)), .val (.int (1 : Int32)), .val (.int (0 : Int32)), .unset]) rfl ?_
  refine Y.iload X0 hx (hb hby d7_3) rfl ?_
  refine Y.iload X0 hx (hb hby d7_5) rfl ?_
  refine Y.icmpNo X0 hx (hb hby d7_7) rfl (tlt (show (0 : Int32) < (1 : Int32) from (by decide))).2.1 ?_
  refine Y.aloadN X0 hx (hb hby d7_10) rfl rfl ?_
  refine Y.iloadN X0 hx (hb hby d7_11) rfl ?_
  refine Gl.pre (fun _ k => own_ldC X0 hx hZ e0 V_a1 (j := (0 : Int32)) (i := 0) (by decide) (by decide) (Nat.lt_of_lt_of_eq (by decide : 0 < 1) rfl) (v := c0) rfl (g := (mkF m 12 #[.val (.ref a1), .val (.int (0 : Int32)), .val (.ref a2), .val (.int (0 : Int32)), .val (.int (1 : Int32)), .val (.int (0 : Int32)), .unset] [(.int (0 : Int32)), (.ref a1)])) rfl rfl (hb hby d7_12) _ k) ?_
  refine Y.istore X0 hx (hb hby d7_13) rfl (l' := #[.val (.ref a1), .val (.int (0 : Int32)), .val (.ref a2), .val (.int (0 : Int32)), .val (.int (1 : Int32)), .val (.int (0 : Int32)), .val (.int c0)]) rfl ?_
  refine Y.iload X0 hx (hb hby d7_15) rfl ?_
  refine Y.sipush X0 hx (hb hby d7_17) ?_
  refine Y.icmpYes X0 hx (pc0 := 20) (pc' := 26) rfl (hb hby d7_20) rfl (flt (show ¬ ((255 : Int32) < c0) from hc0)).2.2.2 (by decide) (by decide) ?_
  refine Y.aloadN X0 hx (hb hby d7_26) rfl rfl ?_
  refine Y.iloadN X0 hx (hb hby d7_27) rfl ?_
  refine Y.iload X0 hx (hb hby d7_28) rfl ?_
  refine Y.i2b X0 hx (hb hby d7_30) rfl ?_
  obtain ⟨T1, h1, X1, e1, W1, V1, st1⟩ := own_stB X0 hx hZ e0 V_a2 (j := (0 : Int32)) (i := 0) (by decide) (by decide) (Nat.lt_of_lt_of_eq (by decide : 0 < 1) rfl) (g := (mkF m 31 #[.val (.ref a1), .val (.int (0 : Int32)), .val (.ref a2), .val (.int (0 : Int32)), .val (.int (1 : Int32)), .val (.int (0 : Int32)), .val (.int c0)] [(.int (c0.toInt8.toInt32)), (.int (0 : Int32)), (.ref a2)])) rfl rfl (hb hby d7_31)
  refine Gl.pre (fun _ k => st1 _ k) ?_
  have V_a1 := V_a1.other W1 (own_ne_a1_a2)
  have Z1 : n0 ≤ h1.size := by rw [W1.size]; exact Z0
  have N1 := Fr.snoc X1 N0 g_a2
  have K1 := K0.wr W1 (Or.inl (List.mem_of_getElem? (i := 0) rfl))
  have V_a2 : Bal Z h1 a2 .byte [(nar .byte (c0.toInt8.toInt32))] := V1
  refine Y.iinc X1 hx (hb hby d7_32) rfl (l' := #[.val (.ref a1), .val (.int (1 : Int32)), .val (.ref a2), .val (.int (0 : Int32)), .val (.int (1 : Int32)), .val (.int (0 : Int32)), .val (.int c0)]) rfl ?_
  refine Y.iinc X1 hx (hb hby d7_35) rfl (l' := #[.val (.ref a1), .val (.int (1 : Int32)), .val (.ref a2), .val (.int (1 : Int32)), .val (.int (1 : Int32)), .val (.int (0 : Int32)), .val (.int c0)]) rfl ?_
  refine Y.iinc X1 hx (hb hby d7_38) rfl (l' := #[.val (.ref a1), .val (.int (1 : Int32)), .val (.ref a2), .val (.int (1 : Int32)), .val (.int (1 : Int32)), .val (.int (1 : Int32)), .val (.int c0)]) rfl ?_
  refine Y.goto X1 hx (pc0 := 41) (pc' := 3) rfl (hb hby d7_41) (by decide) (by decide) ?_
  refine Y.iload X1 hx (hb hby d7_3) rfl ?_
  refine Y.iload X1 hx (hb hby d7_5) rfl ?_
  refine Y.icmpYes X1 hx (pc0 := 7) (pc' := 44) rfl (hb hby d7_7) rfl (flt (show ¬ ((1 : Int32) < (1 : Int32)) from (by decide))).2.1 (by decide) (by decide) ?_
  refine Y.iload X1 hx (hb hby d7_44) rfl ?_
  rw [hPP]
  refine own_finI (Q := (Qcz1_1 Z a1 a2 c0 h0 n0)) X1 hx hlk Bd.returns (hb hby d7_46) ?_ (by decide) (by decide)
  show Qcz1_1 Z a1 a2 c0 h0 n0 _ T1.heap _
  rw [e1]
  exact ⟨rfl, N1, K1, V_a2⟩
theorem ef_cz1_0 (m : MethodId) (a1 : Addr) (a2 : Addr) (c0 : Int32) : entryFrame m #[(.ref a1), (.int (0 : Int32)), (.ref a2), (.int (0 : Int32)), (.int (1 : Int32))] 7 = mkF m 0 #[.val (.ref a1), .val (.int (0 : Int32)), .val (.ref a2), .val (.int (0 : Int32)), .val (.int (1 : Int32)), .unset, .unset] [] := by first | (simp [entryFrame, mkF, argsToLocals, Value.category]; done) | rfl
def Qcz1_0 (Z : State) (a1 : Addr) (a2 : Addr) (c0 : Int32) (h0 : Heap) (n0 : Nat) (v : Option Value) (h : Heap) (L : List Loc) : Prop := v = some (.int (0 : Int32)) ∧ Fr n0 L ∧ Keep h0 h [a2]
set_option maxRecDepth 65536 in
set_option maxHeartbeats 40000000 in
theorem rmcz1_0 (l : Launch) (Z : State) (a0 : Array Value) (hw : ∀ d ∈ tables_1, d.before a0 Z = true) (ws : List Jvm.Cond) (a1 : Addr) (a2 : Addr) (c0 : Int32) (h0 : Heap) (n0 : Nat) (Z0 : n0 ≤ h0.size) (V_a1 : Bal Z h0 a1 .char [c0]) (V_a2 : Bal Z h0 a2 .byte [(0 : Int32)]) (g_a2 : n0 ≤ a2) (own_ne_a1_a2 : a1 ≠ a2) (own_ne_a2_a1 : a2 ≠ a1) (hc0 : (255 : Int32) < c0) :
    MetFree l (⟨"java/lang/StringUTF16", "compress", "([CI[BII)I"⟩ : MethodName) (head1 (Jvm.Cond.code (⟨"java/lang/StringUTF16", "compress", "([CI[BII)I"⟩ : MethodName) jdk_52_method_21_code 7 (some .int) :: ws) ({ frames := 0, cells := 0, slots := 0, locals := 0 } : Room)) (fun a U => a = #[(.ref a1), (.int (0 : Int32)), (.ref a2), (.int (0 : Int32)), (.int (1 : Int32))] ∧ Z.Warmed39 U.vm ∧ U.heap = h0) (fun _ _ _ _ _ => True) (fun _ U o U' => ∃ v L, o = .returned v ∧ Qcz1_0 Z a1 a2 c0 h0 n0 v U'.heap L ∧ FrameEnd U o U' L ({ frames := 0, cells := 0, slots := 0, locals := 0 } : Room).cells ({ frames := 0, cells := 0, slots := 0, locals := 0 } : Room).slots) := by
  have W := @own_wd Z a0 hw
  refine MetFree.of_bodySF (plainFor_of_name pn_7) hisR ?_
  intro p e s m args below meth c s₁ Bd hml0 hP hK
  obtain ⟨rfl, hZ, hh⟩ := hP
  have hx := Bd.exec
  have hby := Bd.bytes
  have hlk : meth.locks = false := BodyLoose.notSynchronized Bd
  have hml : c.maxLocals = 7 := hml0
  have hown : s.vm.findClass "java/lang/StringUTF16" = some m.cls := findClass_of_methodNamed Bd.named
  have hnm := (name_of_methodNamed Bd.named Bd.method).1
  have X0 : Stand p l e ({ frames := 0, cells := 0, slots := 0, locals := 0 } : Room) s m #[(.ref a1), (.int (0 : Int32)), (.ref a2), (.int (0 : Int32)), (.int (1 : Int32))] below meth c s₁ [] 0 0 := Stand.of_body Bd
  have e0 : s₁.heap = h0 := by rw [← hh, Bd.state]; rfl
  have N0 := Fr.nil n0
  show Gl p.tables e below _ _
  refine Gl.pre (fun t k => castTop (ef_cz1_0 m a1 a2 c0) k) ?_
  refine Gl.gen (fun PP hPP => ?_)
  have K0 : Keep h0 h0 [a2] := Keep.refl h0 _
  show Gl p.tables e below PP (s₁.setTop (mkF m 0 #[.val (.ref a1), .val (.int (0 : Int32)), .val (.ref a2), .val (.int (0 : Int32)), .val (.int (1 : Int32)), .unset, .unset] []))
  refine Y.iconst X0 hx (hb hby d7_0) ?_
  refine Y.istore X0 hx (hb hby d7_1) rfl (l' := #[.val (.ref a1), .val (.int (0 : Int32)), .val (.ref a2), .val (.int (0 : Int32)), .val (.int (1 : Int32)), .val (.int (0 : Int32)), .unset]) rfl ?_
  refine Y.iload X0 hx (hb hby d7_3) rfl ?_
  refine Y.iload X0 hx (hb hby d7_5) rfl ?_
  refine Y.icmpNo X0 hx (hb hby d7_7) rfl (tlt (show (0 : Int32) < (1 : Int32) from (by decide))).2.1 ?_
  refine Y.aloadN X0 hx (hb hby d7_10) rfl rfl ?_
  refine Y.iloadN X0 hx (hb hby d7_11) rfl ?_
  refine Gl.pre (fun _ k => own_ldC X0 hx hZ e0 V_a1 (j := (0 : Int32)) (i := 0) (by decide) (by decide) (Nat.lt_of_lt_of_eq (by decide : 0 < 1) rfl) (v := c0) rfl (g := (mkF m 12 #[.val (.ref a1), .val (.int (0 : Int32)), .val (.ref a2), .val (.int (0 : Int32)), .val (.int (1 : Int32)), .val (.int (0 : Int32)), .unset] [(.int (0 : Int32)), (.ref a1)])) rfl rfl (hb hby d7_12) _ k) ?_
  refine Y.istore X0 hx (hb hby d7_13) rfl (l' := #[.val (.ref a1), .val (.int (0 : Int32)), .val (.ref a2), .val (.int (0 : Int32)), .val (.int (1 : Int32)), .val (.int (0 : Int32)), .val (.int c0)]) rfl ?_
  refine Y.iload X0 hx (hb hby d7_15) rfl ?_
  refine Y.sipush X0 hx (hb hby d7_17) ?_
  refine Y.icmpNo X0 hx (hb hby d7_20) rfl (tlt (show (255 : Int32) < c0 from hc0)).2.2.2 ?_
  refine Y.iload X0 hx (hb hby d7_23) rfl ?_
  rw [hPP]
  refine own_finI (Q := (Qcz1_0 Z a1 a2 c0 h0 n0)) X0 hx hlk Bd.returns (hb hby d7_25) ?_ (by decide) (by decide)
  show Qcz1_0 Z a1 a2 c0 h0 n0 _ s₁.heap _
  rw [e0]
  exact ⟨rfl, N0, K0⟩
theorem d21_0 : decode jdk_52_method_3_code 0 = .ok (.iload_n 0, 1) := by decide +kernel
theorem d21_1 : decode jdk_52_method_3_code 1 = .ok (.ifCond .ge 11, 3) := by decide +kernel
theorem d21_12 : decode jdk_52_method_3_code 12 = .ok (.iload_n 0, 1) := by decide +kernel
theorem d21_13 : decode jdk_52_method_3_code 13 = .ok (.ldc 20, 2) := by decide +kernel
theorem d21_15 : decode jdk_52_method_3_code 15 = .ok (.if_icmp .lt 40, 3) := by decide +kernel
theorem d21_55 : decode jdk_52_method_3_code 55 = .ok (.iload_n 0, 1) := by decide +kernel
theorem d21_56 : decode jdk_52_method_3_code 56 = .ok (.iconst 1, 1) := by decide +kernel
theorem d21_57 : decode jdk_52_method_3_code 57 = .ok (.ishl, 1) := by decide +kernel
theorem d21_58 : decode jdk_52_method_3_code 58 = .ok (.ireturn, 1) := by decide +kernel
theorem pn_21 : plainName "java/lang/StringUTF16" = true := by first | (simp [plainName, overriddenIn]; done) | decide +kernel
theorem ef_nl1 (m : MethodId)  : entryFrame m #[(.int (1 : Int32))] 1 = mkF m 0 #[.val (.int (1 : Int32))] [] := by first | (simp [entryFrame, mkF, argsToLocals, Value.category]; done) | rfl
def Qnl1 (Z : State)  (h0 : Heap) (n0 : Nat) (v : Option Value) (h : Heap) (L : List Loc) : Prop := v = some (.int (2 : Int32)) ∧ Fr n0 L ∧ h = h0
set_option maxRecDepth 65536 in
set_option maxHeartbeats 40000000 in
theorem rmnl1 (l : Launch) (Z : State) (a0 : Array Value) (hw : ∀ d ∈ tables_1, d.before a0 Z = true) (ws : List Jvm.Cond)  (h0 : Heap) (n0 : Nat) (Z0 : n0 ≤ h0.size)  :
    MetFree l (⟨"java/lang/StringUTF16", "newBytesLength", "(I)I"⟩ : MethodName) (head1 (Jvm.Cond.code (⟨"java/lang/StringUTF16", "newBytesLength", "(I)I"⟩ : MethodName) jdk_52_method_3_code 1 (some .int) :: ws) ({ frames := 0, cells := 0, slots := 0, locals := 0 } : Room)) (fun a U => a = #[(.int (1 : Int32))] ∧ Z.Warmed39 U.vm ∧ U.heap = h0) (fun _ _ _ _ _ => True) (fun _ U o U' => ∃ v L, o = .returned v ∧ Qnl1 Z  h0 n0 v U'.heap L ∧ FrameEnd U o U' L ({ frames := 0, cells := 0, slots := 0, locals := 0 } : Room).cells ({ frames := 0, cells := 0, slots := 0, locals := 0 } : Room).slots) := by
  have W := @own_wd Z a0 hw
  refine MetFree.of_bodySF (plainFor_of_name pn_21) hisR ?_
  intro p e s m args below meth c s₁ Bd hml0 hP hK
  obtain ⟨rfl, hZ, hh⟩ := hP
  have hx := Bd.exec
  have hby := Bd.bytes
  have hlk : meth.locks = false := BodyLoose.notSynchronized Bd
  have hml : c.maxLocals = 1 := hml0
  have hown : s.vm.findClass "java/lang/StringUTF16" = some m.cls := findClass_of_methodNamed Bd.named
  have hnm := (name_of_methodNamed Bd.named Bd.method).1
  have X0 : Stand p l e ({ frames := 0, cells := 0, slots := 0, locals := 0 } : Room) s m #[(.int (1 : Int32))] below meth c s₁ [] 0 0 := Stand.of_body Bd
  have e0 : s₁.heap = h0 := by rw [← hh, Bd.state]; rfl
  have N0 := Fr.nil n0
  show Gl p.tables e below _ _
  refine Gl.pre (fun t k => castTop (ef_nl1 m ) k) ?_
  refine Gl.gen (fun PP hPP => ?_)
  show Gl p.tables e below PP (s₁.setTop (mkF m 0 #[.val (.int (1 : Int32))] []))
  refine Y.iloadN X0 hx (hb hby d21_0) rfl ?_
  refine Y.ifYes X0 hx (pc0 := 1) (pc' := 12) rfl (hb hby d21_1) rfl ((if0 _ _).trans (flt (show ¬ ((1 : Int32) < (0 : Int32)) from (by decide))).2.1) (by decide) (by decide) ?_
  refine Y.iloadN X0 hx (hb hby d21_12) rfl ?_
  refine Gl.pre (fun _ k => X0.ldcInt hx hown (mvT hZ (W 104 rfl)) (g := (mkF m 13 #[.val (.int (1 : Int32))] [(.int (1 : Int32))])) rfl (hb hby d21_13) _ k) ?_
  refine Y.icmpYes X0 hx (pc0 := 15) (pc' := 55) rfl (hb hby d21_15) rfl (tlt (show (1 : Int32) < (1073741823 : Int32) from (by decide))).1 (by decide) (by decide) ?_
  refine Y.iloadN X0 hx (hb hby d21_55) rfl ?_
  refine Y.iconst X0 hx (hb hby d21_56) ?_
  refine Y.ishl X0 hx (hb hby d21_57) rfl ?_
  show Gl p.tables e below PP (s₁.setTop (mkF m 58 #[.val (.int (1 : Int32))] [(.int ((1 : Int32) <<< ((1 : Int32) &&& 31)))]))
  rw [show ((1 : Int32) <<< ((1 : Int32) &&& 31)) = (2 : Int32) by decide]
  show Gl p.tables e below PP (s₁.setTop (mkF m 58 #[.val (.int (1 : Int32))] [(.int (2 : Int32))]))
  rw [hPP]
  refine own_finI (Q := (Qnl1 Z  h0 n0)) X0 hx hlk Bd.returns (hb hby d21_58) ?_ (by decide) (by decide)
  show Qnl1 Z  h0 n0 _ s₁.heap _
  rw [e0]
  exact ⟨rfl, N0, rfl⟩
theorem d20_0 : decode jdk_52_method_2_code 0 = .ok (.iload_n 0, 1) := by decide +kernel
theorem d20_1 : decode jdk_52_method_2_code 1 = .ok (.invokestatic 11, 3) := by decide +kernel
theorem d20_4 : decode jdk_52_method_2_code 4 = .ok (.newarray .byte, 2) := by decide +kernel
theorem d20_6 : decode jdk_52_method_2_code 6 = .ok (.areturn, 1) := by decide +kernel
theorem pn_20 : plainName "java/lang/StringUTF16" = true := by first | (simp [plainName, overriddenIn]; done) | decide +kernel
theorem ef_nf1 (m : MethodId)  : entryFrame m #[(.int (1 : Int32))] 1 = mkF m 0 #[.val (.int (1 : Int32))] [] := by first | (simp [entryFrame, mkF, argsToLocals, Value.category]; done) | rfl
def Qnf1 (Z : State)  (h0 : Heap) (n0 : Nat) (v : Option Value) (h : Heap) (L : List Loc) : Prop := ∃ b : Addr, v = some (.ref b) ∧ Fr n0 L ∧ h0.size ≤ b ∧ Keep h0 h [] ∧ Bal Z h b .byte [(0 : Int32), (0 : Int32)] ∧ Exa Z h b "[B"
set_option maxRecDepth 65536 in
set_option maxHeartbeats 40000000 in
theorem rmnf1 (l : Launch) (Z : State) (a0 : Array Value) (hw : ∀ d ∈ tables_1, d.before a0 Z = true) (ws : List Jvm.Cond)  (h0 : Heap) (n0 : Nat) (Z0 : n0 ≤ h0.size)  :
    MetFree l (⟨"java/lang/StringUTF16", "newBytesFor", "(I)[B"⟩ : MethodName) (head1 (Jvm.Cond.code (⟨"java/lang/StringUTF16", "newBytesFor", "(I)[B"⟩ : MethodName) jdk_52_method_2_code 1 (some (.array .byte)) :: ws) ({ frames := 1, cells := 1, slots := 2, locals := 12 } : Room)) (fun a U => a = #[(.int (1 : Int32))] ∧ Z.Warmed39 U.vm ∧ U.heap = h0) (fun _ _ _ _ _ => True) (fun _ U o U' => ∃ v L, o = .returned v ∧ Qnf1 Z  h0 n0 v U'.heap L ∧ FrameEnd U o U' L ({ frames := 1, cells := 1, slots := 2, locals := 12 } : Room).cells ({ frames := 1, cells := 1, slots := 2, locals := 12 } : Room).slots) := by
  have W := @own_wd Z a0 hw
  refine MetFree.of_bodySF (plainFor_of_name pn_20) hisR ?_
  intro p e s m args below meth c s₁ Bd hml0 hP hK
  obtain ⟨rfl, hZ, hh⟩ := hP
  have hx := Bd.exec
  have hby := Bd.bytes
  have hlk : meth.locks = false := BodyLoose.notSynchronized Bd
  have hml : c.maxLocals = 1 := hml0
  have hown : s.vm.findClass "java/lang/StringUTF16" = some m.cls := findClass_of_methodNamed Bd.named
  have hnm := (name_of_methodNamed Bd.named Bd.method).1
  have X0 : Stand p l e ({ frames := 1, cells := 1, slots := 2, locals := 12 } : Room) s m #[(.int (1 : Int32))] below meth c s₁ [] 0 0 := Stand.of_body Bd
  have e0 : s₁.heap = h0 := by rw [← hh, Bd.state]; rfl
  have N0 := Fr.nil n0
  show Gl p.tables e below _ _
  refine Gl.pre (fun t k => castTop (ef_nf1 m ) k) ?_
  refine Gl.gen (fun PP hPP => ?_)
  have K0 : Keep h0 h0 [] := Keep.refl h0 _
  show Gl p.tables e below PP (s₁.setTop (mkF m 0 #[.val (.int (1 : Int32))] []))
  refine Y.iloadN X0 hx (hb hby d20_0) rfl ?_
  obtain ⟨_, _, ⟨T1, L1, k1, n1⟩, -, X1, ⟨Lc1, hQ1, l1, y1, z1⟩, st1⟩ := Jvm.LawKit.callS X0 hx (y := (⟨"java/lang/StringUTF16", "newBytesLength", "(I)I"⟩ : MethodName)) hown (mvT hZ (W 101 rfl)) (mvT hZ (W 102 rfl)) (mvT hZ (W 26 rfl)) (mvT hZ (W 103 rfl)) (by decide) (backOf (W := 0) (rmnl1 l Z a0 hw []  h0 n0 Z0 ) hZ (W 103 rfl) (W 26 rfl) (by decide) (by decide)) (g := (mkF m 1 #[.val (.int (1 : Int32))] [(.int (1 : Int32))])) rfl (by rw [hml]; rfl) (argsL := [(.int (1 : Int32))]) (rest := []) (lenOf pd_0 rfl) rfl (by show 2 * 0 + _ ≤ _; exact Nat.le_of_eq rfl) (hb hby d20_1) (fun _ _ => ⟨rfl, e0, (by decide : 0 + 0 ≤ _), (by decide : 0 + 0 ≤ _)⟩)
  dsimp only [Pt.U, Pt.locs, Pt.cells, Pt.slots] at X1 l1 y1 z1 st1 hQ1
  subst l1 y1 z1
  obtain ⟨rfl, N1q, e1⟩ := hQ1
  have N1 := Fr.app N0 N1q
  refine Gl.pre (fun _ k => st1 _ k) ?_
  obtain ⟨T2, h2, k2, X2, e2, E2, A2, B2, st2⟩ := newPE X1 hx hZ (W 28 rfl) e1 (g := (mkF m 4 #[.val (.int (1 : Int32))] [(.int (2 : Int32))])) rfl (hb hby d20_4) rfl (by decide) (cap := 2) (by decide) (by decide) (by decide) (by decide) (ad := "[B") (by first | rfl | decide | decide +kernel)
  obtain ⟨b2, g2⟩ : ∃ z, z = h0.size := ⟨_, rfl⟩
  rw [← g2] at A2 B2 st2
  refine Gl.pre (fun _ k => st2 _ k) ?_
  have g_b2 : n0 ≤ b2 := Nat.le_trans Z0 (Nat.le_of_eq g2.symm)
  have sz_b2 : h0.size ≤ b2 := Nat.le_trans K0.1 (Nat.le_of_eq g2.symm)
  have Z2 : n0 ≤ h2.size := Nat.le_trans Z0 E2.1
  have K2 := K0.ext E2
  have V_b2 : Bal Z h2 b2 .byte [(0 : Int32), (0 : Int32)] := Bal.new (ty := .byte) A2 (n := 2) (by decide) rfl
  have E_b2 := B2
  rw [hPP]
  refine own_finA (Q := (Qnf1 Z  h0 n0)) X2 hx hlk Bd.returns rfl rfl (hb hby d20_6) ?_ (by decide) (by decide)
  show Qnf1 Z  h0 n0 _ T2.heap _
  rw [e2]
  exact ⟨b2, rfl, N1, sz_b2, K2, V_b2, E_b2⟩
theorem d23_0 : decode jdk_52_method_4_code 0 = .ok (.getstatic 44, 3) := by decide +kernel
theorem d23_3 : decode jdk_52_method_4_code 3 = .ok (.ifCond .ne 25, 3) := by decide +kernel
theorem d23_28 : decode jdk_52_method_4_code 28 = .ok (.iload_n 1, 1) := by decide +kernel
theorem d23_29 : decode jdk_52_method_4_code 29 = .ok (.iconst 1, 1) := by decide +kernel
theorem d23_30 : decode jdk_52_method_4_code 30 = .ok (.ishl, 1) := by decide +kernel
theorem d23_31 : decode jdk_52_method_4_code 31 = .ok (.istore_n 1, 1) := by decide +kernel
theorem d23_32 : decode jdk_52_method_4_code 32 = .ok (.aload_n 0, 1) := by decide +kernel
theorem d23_33 : decode jdk_52_method_4_code 33 = .ok (.iload_n 1, 1) := by decide +kernel
theorem d23_34 : decode jdk_52_method_4_code 34 = .ok (.iinc 1 1, 3) := by decide +kernel
theorem d23_37 : decode jdk_52_method_4_code 37 = .ok (.iload_n 2, 1) := by decide +kernel
theorem d23_38 : decode jdk_52_method_4_code 38 = .ok (.getstatic 59, 3) := by decide +kernel
theorem d23_41 : decode jdk_52_method_4_code 41 = .ok (.ishr, 1) := by decide +kernel
theorem d23_42 : decode jdk_52_method_4_code 42 = .ok (.i2b, 1) := by decide +kernel
theorem d23_43 : decode jdk_52_method_4_code 43 = .ok (.bastore, 1) := by decide +kernel
theorem d23_44 : decode jdk_52_method_4_code 44 = .ok (.aload_n 0, 1) := by decide +kernel
theorem d23_45 : decode jdk_52_method_4_code 45 = .ok (.iload_n 1, 1) := by decide +kernel
theorem d23_46 : decode jdk_52_method_4_code 46 = .ok (.iload_n 2, 1) := by decide +kernel
theorem d23_47 : decode jdk_52_method_4_code 47 = .ok (.getstatic 63, 3) := by decide +kernel
theorem d23_50 : decode jdk_52_method_4_code 50 = .ok (.ishr, 1) := by decide +kernel
theorem d23_51 : decode jdk_52_method_4_code 51 = .ok (.i2b, 1) := by decide +kernel
theorem d23_52 : decode jdk_52_method_4_code 52 = .ok (.bastore, 1) := by decide +kernel
theorem d23_53 : decode jdk_52_method_4_code 53 = .ok (.return_, 1) := by decide +kernel
theorem pn_23 : plainName "java/lang/StringUTF16" = true := by first | (simp [plainName, overriddenIn]; done) | decide +kernel
theorem ef_pu0 (m : MethodId) (a1 : Addr) (pv : Int32) (xs : List Int32) : entryFrame m #[(.ref a1), (.int (0 : Int32)), (.int pv)] 3 = mkF m 0 #[.val (.ref a1), .val (.int (0 : Int32)), .val (.int pv)] [] := by first | (simp [entryFrame, mkF, argsToLocals, Value.category]; done) | rfl
def Qpu0 (Z : State) (a1 : Addr) (pv : Int32) (xs : List Int32) (h0 : Heap) (n0 : Nat) (v : Option Value) (h : Heap) (L : List Loc) : Prop := v = none ∧ Fr n0 L ∧ Keep h0 h [a1] ∧ Bal Z h a1 .byte ((xs.set 0 (nar .byte ((pv >>> ((0 : Int32) &&& 31)).toInt8.toInt32))).set 1 (nar .byte ((pv >>> ((8 : Int32) &&& 31)).toInt8.toInt32)))
set_option maxRecDepth 65536 in
set_option maxHeartbeats 40000000 in
theorem rmpu0 (l : Launch) (Z : State) (a0 : Array Value) (hw : ∀ d ∈ tables_1, d.before a0 Z = true) (ws : List Jvm.Cond) (a1 : Addr) (pv : Int32) (xs : List Int32) (h0 : Heap) (n0 : Nat) (Z0 : n0 ≤ h0.size) (V_a1 : Bal Z h0 a1 .byte xs) (g_a1 : n0 ≤ a1) (hlt : 1 < xs.length) (SAD : Sta Z Z.heap "java/lang/StringUTF16" "$assertionsDisabled" "Z" (.int (1 : Int32))) (SHI : Sta Z Z.heap "java/lang/StringUTF16" "HI_BYTE_SHIFT" "I" (.int (0 : Int32))) (SLO : Sta Z Z.heap "java/lang/StringUTF16" "LO_BYTE_SHIFT" "I" (.int (8 : Int32))) (O_ : Old Z n0 h0) :
    MetFree l (⟨"java/lang/StringUTF16", "putChar", "([BII)V"⟩ : MethodName) (head1 (Jvm.Cond.code (⟨"java/lang/StringUTF16", "putChar", "([BII)V"⟩ : MethodName) jdk_52_method_4_code 3 none :: ws) ({ frames := 0, cells := 0, slots := 0, locals := 0 } : Room)) (fun a U => a = #[(.ref a1), (.int (0 : Int32)), (.int pv)] ∧ Z.Warmed39 U.vm ∧ U.heap = h0) (fun _ _ _ _ _ => True) (fun _ U o U' => ∃ v L, o = .returned v ∧ Qpu0 Z a1 pv xs h0 n0 v U'.heap L ∧ FrameEnd U o U' L ({ frames := 0, cells := 0, slots := 0, locals := 0 } : Room).cells ({ frames := 0, cells := 0, slots := 0, locals := 0 } : Room).slots) := by
  have W := @own_wd Z a0 hw
  refine MetFree.of_bodySF (plainFor_of_name pn_23) hisR ?_
  intro p e s m args below meth c s₁ Bd hml0 hP hK
  obtain ⟨rfl, hZ, hh⟩ := hP
  have hx := Bd.exec
  have hby := Bd.bytes
  have hlk : meth.locks = false := BodyLoose.notSynchronized Bd
  have hml : c.maxLocals = 3 := hml0
  have hown : s.vm.findClass "java/lang/StringUTF16" = some m.cls := findClass_of_methodNamed Bd.named
  have hnm := (name_of_methodNamed Bd.named Bd.method).1
  have X0 : Stand p l e ({ frames := 0, cells := 0, slots := 0, locals := 0 } : Room) s m #[(.ref a1), (.int (0 : Int32)), (.int pv)] below meth c s₁ [] 0 0 := Stand.of_body Bd
  have e0 : s₁.heap = h0 := by rw [← hh, Bd.state]; rfl
  have N0 := Fr.nil n0
  show Gl p.tables e below _ _
  refine Gl.pre (fun t k => castTop (ef_pu0 m a1 pv xs) k) ?_
  refine Gl.gen (fun PP hPP => ?_)
  have K0 : Keep h0 h0 [a1] := Keep.refl h0 _
  show Gl p.tables e below PP (s₁.setTop (mkF m 0 #[.val (.ref a1), .val (.int (0 : Int32)), .val (.int pv)] []))
  obtain ⟨T1, X1, e1, st1⟩ := getS2 X0 hx hZ hown (host := "") (Or.inl (W 112 rfl)) Via.refl e0 (SAD.ext O_.2) (g := (mkF m 0 #[.val (.ref a1), .val (.int (0 : Int32)), .val (.int pv)] [])) rfl (hb hby d23_0)
  refine Gl.pre (fun _ k => st1 _ k) ?_
  refine Y.ifYes X1 hx (pc0 := 3) (pc' := 28) rfl (hb hby d23_3) rfl ((if0 _ _).trans (feq (show ¬ ((1 : Int32) = (0 : Int32)) from (by decide))).2) (by decide) (by decide) ?_
  refine Y.iloadN X1 hx (hb hby d23_28) rfl ?_
  refine Y.iconst X1 hx (hb hby d23_29) ?_
  refine Y.ishl X1 hx (hb hby d23_30) rfl ?_
  show Gl p.tables e below PP (T1.setTop (mkF m 31 #[.val (.ref a1), .val (.int (0 : Int32)), .val (.int pv)] [(.int ((0 : Int32) <<< ((1 : Int32) &&& 31)))]))
  rw [show ((0 : Int32) <<< ((1 : Int32) &&& 31)) = (0 : Int32) by decide]
  show Gl p.tables e below PP (T1.setTop (mkF m 31 #[.val (.ref a1), .val (.int (0 : Int32)), .val (.int pv)] [(.int (0 : Int32))]))
  refine Y.istoreN X1 hx (hb hby d23_31) rfl (l' := #[.val (.ref a1), .val (.int (0 : Int32)), .val (.int pv)]) rfl ?_
  refine Y.aloadN X1 hx (hb hby d23_32) rfl rfl ?_
  refine Y.iloadN X1 hx (hb hby d23_33) rfl ?_
  refine Y.iinc X1 hx (hb hby d23_34) rfl (l' := #[.val (.ref a1), .val (.int (1 : Int32)), .val (.int pv)]) rfl ?_
  refine Y.iloadN X1 hx (hb hby d23_37) rfl ?_
  obtain ⟨T2, X2, e2, st2⟩ := getS2 X1 hx hZ hown (host := "") (Or.inl (W 113 rfl)) Via.refl e1 (SHI.ext O_.2) (g := (mkF m 38 #[.val (.ref a1), .val (.int (1 : Int32)), .val (.int pv)] [(.int pv), (.int (0 : Int32)), (.ref a1)])) rfl (hb hby d23_38)
  refine Gl.pre (fun _ k => st2 _ k) ?_
  refine Y.ishr X2 hx (hb hby d23_41) rfl ?_
  refine Y.i2b X2 hx (hb hby d23_42) rfl ?_
  obtain ⟨T3, h3, X3, e3, W3, V3, st3⟩ := own_stB X2 hx hZ e2 V_a1 (j := (0 : Int32)) (i := 0) (by decide) (by decide) (Nat.lt_of_succ_lt hlt) (g := (mkF m 43 #[.val (.ref a1), .val (.int (1 : Int32)), .val (.int pv)] [(.int ((pv >>> ((0 : Int32) &&& 31)).toInt8.toInt32)), (.int (0 : Int32)), (.ref a1)])) rfl rfl (hb hby d23_43)
  refine Gl.pre (fun _ k => st3 _ k) ?_
  have O_ := O_.wr W3 g_a1
  have Z3 : n0 ≤ h3.size := by rw [W3.size]; exact Z0
  have N3 := Fr.snoc X3 N0 g_a1
  have K3 := K0.wr W3 (Or.inl (List.mem_of_getElem? (i := 0) rfl))
  have V_a1 := V3
  refine Y.aloadN X3 hx (hb hby d23_44) rfl rfl ?_
  refine Y.iloadN X3 hx (hb hby d23_45) rfl ?_
  refine Y.iloadN X3 hx (hb hby d23_46) rfl ?_
  obtain ⟨T4, X4, e4, st4⟩ := getS2 X3 hx hZ hown (host := "") (Or.inl (W 114 rfl)) Via.refl e3 (SLO.ext O_.2) (g := (mkF m 47 #[.val (.ref a1), .val (.int (1 : Int32)), .val (.int pv)] [(.int pv), (.int (1 : Int32)), (.ref a1)])) rfl (hb hby d23_47)
  refine Gl.pre (fun _ k => st4 _ k) ?_
  refine Y.ishr X4 hx (hb hby d23_50) rfl ?_
  refine Y.i2b X4 hx (hb hby d23_51) rfl ?_
  obtain ⟨T5, h5, X5, e5, W5, V5, st5⟩ := own_stB X4 hx hZ e4 V_a1 (j := (1 : Int32)) (i := 1) (by decide) (by decide) (by rw [List.length_set]; exact hlt) (g := (mkF m 52 #[.val (.ref a1), .val (.int (1 : Int32)), .val (.int pv)] [(.int ((pv >>> ((8 : Int32) &&& 31)).toInt8.toInt32)), (.int (1 : Int32)), (.ref a1)])) rfl rfl (hb hby d23_52)
  refine Gl.pre (fun _ k => st5 _ k) ?_
  have O_ := O_.wr W5 g_a1
  have Z5 : n0 ≤ h5.size := by rw [W5.size]; exact Z3
  have N5 := Fr.snoc X5 N3 g_a1
  have K5 := K3.wr W5 (Or.inl (List.mem_of_getElem? (i := 0) rfl))
  have V_a1 := V5
  rw [hPP]
  refine own_finV (Q := (Qpu0 Z a1 pv xs h0 n0)) X5 hx hlk Bd.returns (hb hby d23_53) ?_ (by decide) (by decide)
  show Qpu0 Z a1 pv xs h0 n0 _ T5.heap _
  rw [e5]
  exact ⟨rfl, N5, K5, V_a1⟩
theorem d22_0 : decode jdk_52_method_14_code 0 = .ok (.iload_n 2, 1) := by decide +kernel
theorem d22_1 : decode jdk_52_method_14_code 1 = .ok (.invokestatic 107, 3) := by decide +kernel
theorem d22_4 : decode jdk_52_method_14_code 4 = .ok (.astore_n 3, 1) := by decide +kernel
theorem d22_5 : decode jdk_52_method_14_code 5 = .ok (.iconst 0, 1) := by decide +kernel
theorem d22_6 : decode jdk_52_method_14_code 6 = .ok (.istore 4, 2) := by decide +kernel
theorem d22_8 : decode jdk_52_method_14_code 8 = .ok (.iload 4, 2) := by decide +kernel
theorem d22_10 : decode jdk_52_method_14_code 10 = .ok (.iload_n 2, 1) := by decide +kernel
theorem d22_11 : decode jdk_52_method_14_code 11 = .ok (.if_icmp .ge 21, 3) := by decide +kernel
theorem d22_14 : decode jdk_52_method_14_code 14 = .ok (.aload_n 3, 1) := by decide +kernel
theorem d22_15 : decode jdk_52_method_14_code 15 = .ok (.iload 4, 2) := by decide +kernel
theorem d22_17 : decode jdk_52_method_14_code 17 = .ok (.aload_n 0, 1) := by decide +kernel
theorem d22_18 : decode jdk_52_method_14_code 18 = .ok (.iload_n 1, 1) := by decide +kernel
theorem d22_19 : decode jdk_52_method_14_code 19 = .ok (.caload, 1) := by decide +kernel
theorem d22_20 : decode jdk_52_method_14_code 20 = .ok (.invokestatic 111, 3) := by decide +kernel
theorem d22_23 : decode jdk_52_method_14_code 23 = .ok (.iinc 1 1, 3) := by decide +kernel
theorem d22_26 : decode jdk_52_method_14_code 26 = .ok (.iinc 4 1, 3) := by decide +kernel
theorem d22_29 : decode jdk_52_method_14_code 29 = .ok (.goto (-21), 3) := by decide +kernel
theorem d22_32 : decode jdk_52_method_14_code 32 = .ok (.aload_n 3, 1) := by decide +kernel
theorem d22_33 : decode jdk_52_method_14_code 33 = .ok (.areturn, 1) := by decide +kernel
theorem pn_22 : plainName "java/lang/StringUTF16" = true := by first | (simp [plainName, overriddenIn]; done) | decide +kernel
theorem ef_tb1 (m : MethodId) (a1 : Addr) (c0 : Int32) : entryFrame m #[(.ref a1), (.int (0 : Int32)), (.int (1 : Int32))] 5 = mkF m 0 #[.val (.ref a1), .val (.int (0 : Int32)), .val (.int (1 : Int32)), .unset, .unset] [] := by first | (simp [entryFrame, mkF, argsToLocals, Value.category]; done) | rfl
def Qtb1 (Z : State) (a1 : Addr) (c0 : Int32) (h0 : Heap) (n0 : Nat) (v : Option Value) (h : Heap) (L : List Loc) : Prop := ∃ b : Addr, v = some (.ref b) ∧ Fr n0 L ∧ h0.size ≤ b ∧ Keep h0 h [] ∧ Bal Z h b .byte [(nar .byte ((c0 >>> ((0 : Int32) &&& 31)).toInt8.toInt32)), (nar .byte ((c0 >>> ((8 : Int32) &&& 31)).toInt8.toInt32))] ∧ Exa Z h b "[B"
set_option maxRecDepth 65536 in
set_option maxHeartbeats 40000000 in
theorem rmtb1 (l : Launch) (Z : State) (a0 : Array Value) (hw : ∀ d ∈ tables_1, d.before a0 Z = true) (ws : List Jvm.Cond) (a1 : Addr) (c0 : Int32) (h0 : Heap) (n0 : Nat) (Z0 : n0 ≤ h0.size) (V_a1 : Bal Z h0 a1 .char [c0]) (SAD : Sta Z Z.heap "java/lang/StringUTF16" "$assertionsDisabled" "Z" (.int (1 : Int32))) (SHI : Sta Z Z.heap "java/lang/StringUTF16" "HI_BYTE_SHIFT" "I" (.int (0 : Int32))) (SLO : Sta Z Z.heap "java/lang/StringUTF16" "LO_BYTE_SHIFT" "I" (.int (8 : Int32))) (O_ : Old Z n0 h0) :
    MetFree l (⟨"java/lang/StringUTF16", "toBytes", "([CII)[B"⟩ : MethodName) (head1 (Jvm.Cond.code (⟨"java/lang/StringUTF16", "toBytes", "([CII)[B"⟩ : MethodName) jdk_52_method_14_code 5 (some (.array .byte)) :: ws) ({ frames := 2, cells := 1, slots := 2, locals := 24 } : Room)) (fun a U => a = #[(.ref a1), (.int (0 : Int32)), (.int (1 : Int32))] ∧ Z.Warmed39 U.vm ∧ U.heap = h0) (fun _ _ _ _ _ => True) (fun _ U o U' => ∃ v L, o = .returned v ∧ Qtb1 Z a1 c0 h0 n0 v U'.heap L ∧ FrameEnd U o U' L ({ frames := 2, cells := 1, slots := 2, locals := 24 } : Room).cells ({ frames := 2, cells := 1, slots := 2, locals := 24 } : Room).slots) := by
  have W := @own_wd Z a0 hw
  refine MetFree.of_bodySF (plainFor_of_name pn_22) hisR ?_
  intro p e s m args below meth c s₁ Bd hml0 hP hK
  obtain ⟨rfl, hZ, hh⟩ := hP
  have hx := Bd.exec
  have hby := Bd.bytes
  have hlk : meth.locks = false := BodyLoose.notSynchronized Bd
  have hml : c.maxLocals = 5 := hml0
  have hown : s.vm.findClass "java/lang/StringUTF16" = some m.cls := findClass_of_methodNamed Bd.named
  have hnm := (name_of_methodNamed Bd.named Bd.method).1
  have X0 : Stand p l e ({ frames := 2, cells := 1, slots := 2, locals := 24 } : Room) s m #[(.ref a1), (.int (0 : Int32)), (.int (1 : Int32))] below meth c s₁ [] 0 0 := Stand.of_body Bd
  have e0 : s₁.heap = h0 := by rw [← hh, Bd.state]; rfl
  have N0 := Fr.nil n0
  show Gl p.tables e below _ _
  refine Gl.pre (fun t k => castTop (ef_tb1 m a1 c0) k) ?_
  refine Gl.gen (fun PP hPP => ?_)
  have K0 : Keep h0 h0 [] := Keep.refl h0 _
  show Gl p.tables e below PP (s₁.setTop (mkF m 0 #[.val (.ref a1), .val (.int (0 : Int32)), .val (.int (1 : Int32)), .unset, .unset] []))
  refine Y.iloadN X0 hx (hb hby d22_0) rfl ?_
  obtain ⟨_, _, ⟨T1, L1, k1, n1⟩, -, X1, ⟨Lc1, hQ1, l1, y1, z1⟩, st1⟩ := Jvm.LawKit.callS X0 hx (y := (⟨"java/lang/StringUTF16", "newBytesFor", "(I)[B"⟩ : MethodName)) hown (mvT hZ (W 108 rfl)) (mvT hZ (W 99 rfl)) (mvT hZ (W 26 rfl)) (mvT hZ (W 100 rfl)) (by decide) (backOf (W := 0) (rmnf1 l Z a0 hw []  h0 n0 Z0 ) hZ (W 100 rfl) (W 26 rfl) (by decide) (by decide)) (g := (mkF m 1 #[.val (.ref a1), .val (.int (0 : Int32)), .val (.int (1 : Int32)), .unset, .unset] [(.int (1 : Int32))])) rfl (by rw [hml]; rfl) (argsL := [(.int (1 : Int32))]) (rest := []) (lenOf pd_1 rfl) rfl (by show 2 * 0 + _ ≤ _; exact Nat.le_of_eq rfl) (hb hby d22_1) (fun _ _ => ⟨rfl, e0, (by decide : 0 + 1 ≤ _), (by decide : 0 + 2 ≤ _)⟩)
  dsimp only [Pt.U, Pt.locs, Pt.cells, Pt.slots] at X1 l1 y1 z1 st1 hQ1
  subst l1 y1 z1
  obtain ⟨bn1, rfl, N1q, hz1, K1, V1q, Eb1⟩ := hQ1
  have N1 := Fr.app N0 N1q
  refine Gl.pre (fun _ k => st1 _ k) ?_
  have own_ne_a1_bn1 : a1 ≠ bn1 := Nat.ne_of_lt (Nat.lt_of_lt_of_le V_a1.lt hz1)
  have own_ne_bn1_a1 := own_ne_a1_bn1.symm
  have g_bn1 : n0 ≤ bn1 := Nat.le_trans Z0 hz1
  have sz_bn1 : h0.size ≤ bn1 := Nat.le_trans K0.1 hz1
  have V_a1 := V_a1.keep K1 nin0
  have O_ := O_.keep K1 all0
  have Z1 : n0 ≤ T1.heap.size := Nat.le_trans Z0 K1.1
  have K1k := K0.trans K1 all0
  have V_bn1 := V1q
  have E_bn1 := Eb1
  refine Y.astoreN X1 hx (hb hby d22_4) rfl rfl (l' := #[.val (.ref a1), .val (.int (0 : Int32)), .val (.int (1 : Int32)), .val (.ref bn1), .unset]) rfl ?_
  refine Y.iconst X1 hx (hb hby d22_5) ?_
  refine Y.istore X1 hx (hb hby d22_6) rfl (l' := #[.val (.ref a1), .val (.int (0 : Int32)), .val (.int (1 : Int32)), .val (.ref bn1), .val (.int (0 : Int32))]) rfl ?_
  refine Y.iload X1 hx (hb hby d22_8) rfl ?_
  refine Y.iloadN X1 hx (hb hby d22_10) rfl ?_
  refine Y.icmpNo X1 hx (hb hby d22_11) rfl (tlt (show (0 : Int32) < (1 : Int32) from (by decide))).2.1 ?_
  refine Y.aloadN X1 hx (hb hby d22_14) rfl rfl ?_
  refine Y.iload X1 hx (hb hby d22_15) rfl ?_
  refine Y.aloadN X1 hx (hb hby d22_17) rfl rfl ?_
  refine Y.iloadN X1 hx (hb hby d22_18) rfl ?_
  refine Gl.pre (fun _ k => own_ldC X1 hx hZ rfl V_a1 (j := (0 : Int32)) (i := 0) (by decide) (by decide) (Nat.lt_of_lt_of_eq (by decide : 0 < 1) rfl) (v := c0) rfl (g := (mkF m 19 #[.val (.ref a1), .val (.int (0 : Int32)), .val (.int (1 : Int32)), .val (.ref bn1), .val (.int (0 : Int32))] [(.int (0 : Int32)), (.ref a1), (.int (0 : Int32)), (.ref bn1)])) rfl rfl (hb hby d22_19) _ k) ?_
  obtain ⟨_, _, ⟨T2, L2, k2, n2⟩, -, X2, ⟨Lc2, hQ2, l2, y2, z2⟩, st2⟩ := Jvm.LawKit.callS X1 hx (y := (⟨"java/lang/StringUTF16", "putChar", "([BII)V"⟩ : MethodName)) hown (mvT hZ (W 109 rfl)) (mvT hZ (W 110 rfl)) (mvT hZ (W 26 rfl)) (mvT hZ (W 111 rfl)) (by decide) (backOf (W := 0) (rmpu0 l Z a0 hw [] bn1 c0 ([(0 : Int32), (0 : Int32)]) T1.heap n0 Z1 V_bn1 g_bn1 (Nat.lt_of_lt_of_eq (by decide : 1 < 2) rfl) SAD SHI SLO O_) hZ (W 111 rfl) (W 26 rfl) (by decide) (by decide)) (g := (mkF m 20 #[.val (.ref a1), .val (.int (0 : Int32)), .val (.int (1 : Int32)), .val (.ref bn1), .val (.int (0 : Int32))] [(.int c0), (.int (0 : Int32)), (.ref bn1)])) rfl (by rw [hml]; rfl) (argsL := [(.ref bn1), (.int (0 : Int32)), (.int c0)]) (rest := []) (lenOf pd_2 rfl) rfl (by show 2 * 0 + _ ≤ _; exact Nat.le_of_eq rfl) (hb hby d22_20) (fun _ _ => ⟨rfl, rfl, (by decide : 1 + 0 ≤ _), (by decide : 2 + 0 ≤ _)⟩)
  dsimp only [Pt.U, Pt.locs, Pt.cells, Pt.slots] at X2 l2 y2 z2 st2 hQ2
  subst l2 y2 z2
  obtain ⟨rfl, N2q, K2, V2q⟩ := hQ2
  have N2 := Fr.app N1 N2q
  refine Gl.pre (fun _ k => st2 _ k) ?_
  have V_a1 := V_a1.keep K2 (ninS (own_ne_a1_bn1) nin0)
  have O_ := O_.keep K2 (allS g_bn1 all0)
  have E_bn1 := E_bn1.keep K2
  have Z2 : n0 ≤ T2.heap.size := Nat.le_trans Z1 K2.1
  have K2k := K1k.trans K2 (allS (Or.inr sz_bn1) all0)
  have V_bn1 : Bal Z T2.heap bn1 .byte [(nar .byte ((c0 >>> ((0 : Int32) &&& 31)).toInt8.toInt32)), (nar .byte ((c0 >>> ((8 : Int32) &&& 31)).toInt8.toInt32))] := V2q
  refine Y.iinc X2 hx (hb hby d22_23) rfl (l' := #[.val (.ref a1), .val (.int (1 : Int32)), .val (.int (1 : Int32)), .val (.ref bn1), .val (.int (0 : Int32))]) rfl ?_
  refine Y.iinc X2 hx (hb hby d22_26) rfl (l' := #[.val (.ref a1), .val (.int (1 : Int32)), .val (.int (1 : Int32)), .val (.ref bn1), .val (.int (1 : Int32))]) rfl ?_
  refine Y.goto X2 hx (pc0 := 29) (pc' := 8) rfl (hb hby d22_29) (by decide) (by decide) ?_
  refine Y.iload X2 hx (hb hby d22_8) rfl ?_
  refine Y.iloadN X2 hx (hb hby d22_10) rfl ?_
  refine Y.icmpYes X2 hx (pc0 := 11) (pc' := 32) rfl (hb hby d22_11) rfl (flt (show ¬ ((1 : Int32) < (1 : Int32)) from (by decide))).2.1 (by decide) (by decide) ?_
  refine Y.aloadN X2 hx (hb hby d22_32) rfl rfl ?_
  rw [hPP]
  refine own_finA (Q := (Qtb1 Z a1 c0 h0 n0)) X2 hx hlk Bd.returns rfl rfl (hb hby d22_33) ?_ (by decide) (by decide)
  show Qtb1 Z a1 c0 h0 n0 _ T2.heap _
  exact ⟨bn1, rfl, N2, sz_bn1, K2k, V_bn1, E_bn1⟩
theorem d24_0 : decode jdk_52_method_5_code 0 = .ok (.getstatic 44, 3) := by decide +kernel
theorem d24_3 : decode jdk_52_method_5_code 3 = .ok (.ifCond .ne 25, 3) := by decide +kernel
theorem d24_28 : decode jdk_52_method_5_code 28 = .ok (.iload_n 1, 1) := by decide +kernel
theorem d24_29 : decode jdk_52_method_5_code 29 = .ok (.iconst 1, 1) := by decide +kernel
theorem d24_30 : decode jdk_52_method_5_code 30 = .ok (.ishl, 1) := by decide +kernel
theorem d24_31 : decode jdk_52_method_5_code 31 = .ok (.istore_n 1, 1) := by decide +kernel
theorem d24_32 : decode jdk_52_method_5_code 32 = .ok (.aload_n 0, 1) := by decide +kernel
theorem d24_33 : decode jdk_52_method_5_code 33 = .ok (.iload_n 1, 1) := by decide +kernel
theorem d24_34 : decode jdk_52_method_5_code 34 = .ok (.iinc 1 1, 3) := by decide +kernel
theorem d24_37 : decode jdk_52_method_5_code 37 = .ok (.baload, 1) := by decide +kernel
theorem d24_38 : decode jdk_52_method_5_code 38 = .ok (.sipush 255, 3) := by decide +kernel
theorem d24_41 : decode jdk_52_method_5_code 41 = .ok (.iand, 1) := by decide +kernel
theorem d24_42 : decode jdk_52_method_5_code 42 = .ok (.getstatic 59, 3) := by decide +kernel
theorem d24_45 : decode jdk_52_method_5_code 45 = .ok (.ishl, 1) := by decide +kernel
theorem d24_46 : decode jdk_52_method_5_code 46 = .ok (.aload_n 0, 1) := by decide +kernel
theorem d24_47 : decode jdk_52_method_5_code 47 = .ok (.iload_n 1, 1) := by decide +kernel
theorem d24_48 : decode jdk_52_method_5_code 48 = .ok (.baload, 1) := by decide +kernel
theorem d24_49 : decode jdk_52_method_5_code 49 = .ok (.sipush 255, 3) := by decide +kernel
theorem d24_52 : decode jdk_52_method_5_code 52 = .ok (.iand, 1) := by decide +kernel
theorem d24_53 : decode jdk_52_method_5_code 53 = .ok (.getstatic 63, 3) := by decide +kernel
theorem d24_56 : decode jdk_52_method_5_code 56 = .ok (.ishl, 1) := by decide +kernel
theorem d24_57 : decode jdk_52_method_5_code 57 = .ok (.ior, 1) := by decide +kernel
theorem d24_58 : decode jdk_52_method_5_code 58 = .ok (.i2c, 1) := by decide +kernel
theorem d24_59 : decode jdk_52_method_5_code 59 = .ok (.ireturn, 1) := by decide +kernel
theorem pn_24 : plainName "java/lang/StringUTF16" = true := by first | (simp [plainName, overriddenIn]; done) | decide +kernel
theorem ef_gc1_0 (m : MethodId) (a1 : Addr) (y0 : Int32) (y1 : Int32) : entryFrame m #[(.ref a1), (.int (0 : Int32))] 2 = mkF m 0 #[.val (.ref a1), .val (.int (0 : Int32))] [] := by first | (simp [entryFrame, mkF, argsToLocals, Value.category]; done) | rfl
def Qgc1_0 (Z : State) (a1 : Addr) (y0 : Int32) (y1 : Int32) (h0 : Heap) (n0 : Nat) (v : Option Value) (h : Heap) (L : List Loc) : Prop := v = some (.int (nar .char ((((y0 &&& (255 : Int32)) <<< ((0 : Int32) &&& 31)) ||| ((y1 &&& (255 : Int32)) <<< ((8 : Int32) &&& 31))).toUInt32.toUInt16.toUInt32.toInt32))) ∧ Fr n0 L ∧ h = h0
set_option maxRecDepth 65536 in
set_option maxHeartbeats 40000000 in
theorem rmgc1_0 (l : Launch) (Z : State) (a0 : Array Value) (hw : ∀ d ∈ tables_1, d.before a0 Z = true) (ws : List Jvm.Cond) (a1 : Addr) (y0 : Int32) (y1 : Int32) (h0 : Heap) (n0 : Nat) (Z0 : n0 ≤ h0.size) (V_a1 : Bal Z h0 a1 .byte [y0, y1]) (SAD : Sta Z Z.heap "java/lang/StringUTF16" "$assertionsDisabled" "Z" (.int (1 : Int32))) (SHI : Sta Z Z.heap "java/lang/StringUTF16" "HI_BYTE_SHIFT" "I" (.int (0 : Int32))) (SLO : Sta Z Z.heap "java/lang/StringUTF16" "LO_BYTE_SHIFT" "I" (.int (8 : Int32))) (O_ : Old Z n0 h0) :
    MetFree l (⟨"java/lang/StringUTF16", "getChar", "([BI)C"⟩ : MethodName) (head1 (Jvm.Cond.code (⟨"java/lang/StringUTF16", "getChar", "([BI)C"⟩ : MethodName) jdk_52_method_5_code 2 (some .char) :: ws) ({ frames := 0, cells := 0, slots := 0, locals := 0 } : Room)) (fun a U => a = #[(.ref a1), (.int (0 : Int32))] ∧ Z.Warmed39 U.vm ∧ U.heap = h0) (fun _ _ _ _ _ => True) (fun _ U o U' => ∃ v L, o = .returned v ∧ Qgc1_0 Z a1 y0 y1 h0 n0 v U'.heap L ∧ FrameEnd U o U' L ({ frames := 0, cells := 0, slots := 0, locals := 0 } : Room).cells ({ frames := 0, cells := 0, slots := 0, locals := 0 } : Room).slots) := by
  have W := @own_wd Z a0 hw
  refine MetFree.of_bodySF (plainFor_of_name pn_24) hisR ?_
  intro p e s m args below meth c s₁ Bd hml0 hP hK
  obtain ⟨rfl, hZ, hh⟩ := hP
  have hx := Bd.exec
  have hby := Bd.bytes
  have hlk : meth.locks = false := BodyLoose.notSynchronized Bd
  have hml : c.maxLocals = 2 := hml0
  have hown : s.vm.findClass "java/lang/StringUTF16" = some m.cls := findClass_of_methodNamed Bd.named
  have hnm := (name_of_methodNamed Bd.named Bd.method).1
  have X0 : Stand p l e ({ frames := 0, cells := 0, slots := 0, locals := 0 } : Room) s m #[(.ref a1), (.int (0 : Int32))] below meth c s₁ [] 0 0 := Stand.of_body Bd
  have e0 : s₁.heap = h0 := by rw [← hh, Bd.state]; rfl
  have N0 := Fr.nil n0
  show Gl p.tables e below _ _
  refine Gl.pre (fun t k => castTop (ef_gc1_0 m a1 y0 y1) k) ?_
  refine Gl.gen (fun PP hPP => ?_)
  show Gl p.tables e below PP (s₁.setTop (mkF m 0 #[.val (.ref a1), .val (.int (0 : Int32))] []))
  obtain ⟨T1, X1, e1, st1⟩ := getS2 X0 hx hZ hown (host := "") (Or.inl (W 112 rfl)) Via.refl e0 (SAD.ext O_.2) (g := (mkF m 0 #[.val (.ref a1), .val (.int (0 : Int32))] [])) rfl (hb hby d24_0)
  refine Gl.pre (fun _ k => st1 _ k) ?_
  refine Y.ifYes X1 hx (pc0 := 3) (pc' := 28) rfl (hb hby d24_3) rfl ((if0 _ _).trans (feq (show ¬ ((1 : Int32) = (0 : Int32)) from (by decide))).2) (by decide) (by decide) ?_
  refine Y.iloadN X1 hx (hb hby d24_28) rfl ?_
  refine Y.iconst X1 hx (hb hby d24_29) ?_
  refine Y.ishl X1 hx (hb hby d24_30) rfl ?_
  show Gl p.tables e below PP (T1.setTop (mkF m 31 #[.val (.ref a1), .val (.int (0 : Int32))] [(.int ((0 : Int32) <<< ((1 : Int32) &&& 31)))]))
  rw [show ((0 : Int32) <<< ((1 : Int32) &&& 31)) = (0 : Int32) by decide]
  show Gl p.tables e below PP (T1.setTop (mkF m 31 #[.val (.ref a1), .val (.int (0 : Int32))] [(.int (0 : Int32))]))
  refine Y.istoreN X1 hx (hb hby d24_31) rfl (l' := #[.val (.ref a1), .val (.int (0 : Int32))]) rfl ?_
  refine Y.aloadN X1 hx (hb hby d24_32) rfl rfl ?_
  refine Y.iloadN X1 hx (hb hby d24_33) rfl ?_
  refine Y.iinc X1 hx (hb hby d24_34) rfl (l' := #[.val (.ref a1), .val (.int (1 : Int32))]) rfl ?_
  refine Gl.pre (fun _ k => own_ldB X1 hx hZ e1 V_a1 (j := (0 : Int32)) (i := 0) (by decide) (by decide) (Nat.lt_of_lt_of_eq (by decide : 0 < 2) rfl) (v := y0) rfl (g := (mkF m 37 #[.val (.ref a1), .val (.int (1 : Int32))] [(.int (0 : Int32)), (.ref a1)])) rfl rfl (hb hby d24_37) _ k) ?_
  refine Y.sipush X1 hx (hb hby d24_38) ?_
  refine Y.iand X1 hx (hb hby d24_41) rfl ?_
  obtain ⟨T2, X2, e2, st2⟩ := getS2 X1 hx hZ hown (host := "") (Or.inl (W 113 rfl)) Via.refl e1 (SHI.ext O_.2) (g := (mkF m 42 #[.val (.ref a1), .val (.int (1 : Int32))] [(.int (y0 &&& (255 : Int32)))])) rfl (hb hby d24_42)
  refine Gl.pre (fun _ k => st2 _ k) ?_
  refine Y.ishl X2 hx (hb hby d24_45) rfl ?_
  refine Y.aloadN X2 hx (hb hby d24_46) rfl rfl ?_
  refine Y.iloadN X2 hx (hb hby d24_47) rfl ?_
  refine Gl.pre (fun _ k => own_ldB X2 hx hZ e2 V_a1 (j := (1 : Int32)) (i := 1) (by decide) (by decide) (Nat.lt_of_lt_of_eq (by decide : 1 < 2) rfl) (v := y1) rfl (g := (mkF m 48 #[.val (.ref a1), .val (.int (1 : Int32))] [(.int (1 : Int32)), (.ref a1), (.int ((y0 &&& (255 : Int32)) <<< ((0 : Int32) &&& 31)))])) rfl rfl (hb hby d24_48) _ k) ?_
  refine Y.sipush X2 hx (hb hby d24_49) ?_
  refine Y.iand X2 hx (hb hby d24_52) rfl ?_
  obtain ⟨T3, X3, e3, st3⟩ := getS2 X2 hx hZ hown (host := "") (Or.inl (W 114 rfl)) Via.refl e2 (SLO.ext O_.2) (g := (mkF m 53 #[.val (.ref a1), .val (.int (1 : Int32))] [(.int (y1 &&& (255 : Int32))), (.int ((y0 &&& (255 : Int32)) <<< ((0 : Int32) &&& 31)))])) rfl (hb hby d24_53)
  refine Gl.pre (fun _ k => st3 _ k) ?_
  refine Y.ishl X3 hx (hb hby d24_56) rfl ?_
  refine Y.ior X3 hx (hb hby d24_57) rfl ?_
  refine Y.i2c X3 hx (hb hby d24_58) rfl ?_
  rw [hPP]
  refine own_finN (Q := (Qgc1_0 Z a1 y0 y1 h0 n0)) X3 hx hlk Bd.returns (t := .char) (by simp) rfl (hb hby d24_59) ?_ (by decide) (by decide)
  show Qgc1_0 Z a1 y0 y1 h0 n0 _ T3.heap _
  rw [e3]
  exact ⟨rfl, N0, rfl⟩
theorem d8_0 : decode jdk_52_method_15_code 0 = .ok (.iload_n 1, 1) := by decide +kernel
theorem d8_1 : decode jdk_52_method_15_code 1 = .ok (.aload_n 0, 1) := by decide +kernel
theorem d8_2 : decode jdk_52_method_15_code 2 = .ok (.arraylength, 1) := by decide +kernel
theorem d8_3 : decode jdk_52_method_15_code 3 = .ok (.isub, 1) := by decide +kernel
theorem d8_4 : decode jdk_52_method_15_code 4 = .ok (.bipush 31, 2) := by decide +kernel
theorem d8_6 : decode jdk_52_method_15_code 6 = .ok (.iushr, 1) := by decide +kernel
theorem d8_7 : decode jdk_52_method_15_code 7 = .ok (.i2b, 1) := by decide +kernel
theorem d8_8 : decode jdk_52_method_15_code 8 = .ok (.ireturn, 1) := by decide +kernel
theorem pn_8 : plainName "java/lang/StringUTF16" = true := by first | (simp [plainName, overriddenIn]; done) | decide +kernel
theorem ef_cf1_1 (m : MethodId) (a1 : Addr) (ys : List Int32) : entryFrame m #[(.ref a1), (.int (1 : Int32))] 2 = mkF m 0 #[.val (.ref a1), .val (.int (1 : Int32))] [] := by first | (simp [entryFrame, mkF, argsToLocals, Value.category]; done) | rfl
def Qcf1_1 (Z : State) (a1 : Addr) (ys : List Int32) (h0 : Heap) (n0 : Nat) (v : Option Value) (h : Heap) (L : List Loc) : Prop := v = some (.int (0 : Int32)) ∧ Fr n0 L ∧ h = h0
set_option maxRecDepth 65536 in
set_option maxHeartbeats 40000000 in
theorem rmcf1_1 (l : Launch) (Z : State) (a0 : Array Value) (hw : ∀ d ∈ tables_1, d.before a0 Z = true) (ws : List Jvm.Cond) (a1 : Addr) (ys : List Int32) (h0 : Heap) (n0 : Nat) (Z0 : n0 ≤ h0.size) (V_a1 : Bal Z h0 a1 .byte ys) (hlen : ys.length = 1) :
    MetFree l (⟨"java/lang/StringUTF16", "coderFromArrayLen", "([BI)B"⟩ : MethodName) (head1 (Jvm.Cond.code (⟨"java/lang/StringUTF16", "coderFromArrayLen", "([BI)B"⟩ : MethodName) jdk_52_method_15_code 2 (some .byte) :: ws) ({ frames := 0, cells := 0, slots := 0, locals := 0 } : Room)) (fun a U => a = #[(.ref a1), (.int (1 : Int32))] ∧ Z.Warmed39 U.vm ∧ U.heap = h0) (fun _ _ _ _ _ => True) (fun _ U o U' => ∃ v L, o = .returned v ∧ Qcf1_1 Z a1 ys h0 n0 v U'.heap L ∧ FrameEnd U o U' L ({ frames := 0, cells := 0, slots := 0, locals := 0 } : Room).cells ({ frames := 0, cells := 0, slots := 0, locals := 0 } : Room).slots) := by
  have W := @own_wd Z a0 hw
  refine MetFree.of_bodySF (plainFor_of_name pn_8) hisR ?_
  intro p e s m args below meth c s₁ Bd hml0 hP hK
  obtain ⟨rfl, hZ, hh⟩ := hP
  have hx := Bd.exec
  have hby := Bd.bytes
  have hlk : meth.locks = false := BodyLoose.notSynchronized Bd
  have hml : c.maxLocals = 2 := hml0
  have hown : s.vm.findClass "java/lang/StringUTF16" = some m.cls := findClass_of_methodNamed Bd.named
  have hnm := (name_of_methodNamed Bd.named Bd.method).1
  have X0 : Stand p l e ({ frames := 0, cells := 0, slots := 0, locals := 0 } : Room) s m #[(.ref a1), (.int (1 : Int32))] below meth c s₁ [] 0 0 := Stand.of_body Bd
  have e0 : s₁.heap = h0 := by rw [← hh, Bd.state]; rfl
  have N0 := Fr.nil n0
  show Gl p.tables e below _ _
  refine Gl.pre (fun t k => castTop (ef_cf1_1 m a1 ys) k) ?_
  refine Gl.gen (fun PP hPP => ?_)
  show Gl p.tables e below PP (s₁.setTop (mkF m 0 #[.val (.ref a1), .val (.int (1 : Int32))] []))
  refine Y.iloadN X0 hx (hb hby d8_0) rfl ?_
  refine Y.aloadN X0 hx (hb hby d8_1) rfl rfl ?_
  refine Gl.pre (fun _ k => own_len X0 hx hZ e0 V_a1 (v := (1 : Int32)) (by rw [hlen]; rfl) (g := (mkF m 2 #[.val (.ref a1), .val (.int (1 : Int32))] [(.ref a1), (.int (1 : Int32))])) rfl rfl (hb hby d8_2) _ k) ?_
  refine Y.isub X0 hx (hb hby d8_3) rfl ?_
  show Gl p.tables e below PP (s₁.setTop (mkF m 4 #[.val (.ref a1), .val (.int (1 : Int32))] [(.int ((1 : Int32) - (1 : Int32)))]))
  rw [show ((1 : Int32) - (1 : Int32)) = (0 : Int32) by decide]
  show Gl p.tables e below PP (s₁.setTop (mkF m 4 #[.val (.ref a1), .val (.int (1 : Int32))] [(.int (0 : Int32))]))
  refine Y.bipush X0 hx (hb hby d8_4) ?_
  refine Y.iushr X0 hx (hb hby d8_6) rfl ?_
  show Gl p.tables e below PP (s₁.setTop (mkF m 7 #[.val (.ref a1), .val (.int (1 : Int32))] [(.int (own_ushr (0 : Int32) (31 : Int32)))]))
  rw [show (own_ushr (0 : Int32) (31 : Int32)) = (0 : Int32) by decide]
  show Gl p.tables e below PP (s₁.setTop (mkF m 7 #[.val (.ref a1), .val (.int (1 : Int32))] [(.int (0 : Int32))]))
  refine Y.i2b X0 hx (hb hby d8_7) rfl ?_
  show Gl p.tables e below PP (s₁.setTop (mkF m 8 #[.val (.ref a1), .val (.int (1 : Int32))] [(.int ((0 : Int32).toInt8.toInt32))]))
  rw [show ((0 : Int32).toInt8.toInt32) = (0 : Int32) by decide]
  show Gl p.tables e below PP (s₁.setTop (mkF m 8 #[.val (.ref a1), .val (.int (1 : Int32))] [(.int (0 : Int32))]))
  rw [hPP]
  refine own_finN (Q := (Qcf1_1 Z a1 ys h0 n0)) X0 hx hlk Bd.returns (t := .byte) (z' := (0 : Int32)) (by simp) (by decide) (hb hby d8_8) ?_ (by decide) (by decide)
  show Qcf1_1 Z a1 ys h0 n0 _ s₁.heap _
  rw [e0]
  exact ⟨rfl, N0, rfl⟩
theorem ef_cf1_2 (m : MethodId) (a1 : Addr) (ys : List Int32) : entryFrame m #[(.ref a1), (.int (1 : Int32))] 2 = mkF m 0 #[.val (.ref a1), .val (.int (1 : Int32))] [] := by first | (simp [entryFrame, mkF, argsToLocals, Value.category]; done) | rfl
def Qcf1_2 (Z : State) (a1 : Addr) (ys : List Int32) (h0 : Heap) (n0 : Nat) (v : Option Value) (h : Heap) (L : List Loc) : Prop := v = some (.int (1 : Int32)) ∧ Fr n0 L ∧ h = h0
set_option maxRecDepth 65536 in
set_option maxHeartbeats 40000000 in
theorem rmcf1_2 (l : Launch) (Z : State) (a0 : Array Value) (hw : ∀ d ∈ tables_1, d.before a0 Z = true) (ws : List Jvm.Cond) (a1 : Addr) (ys : List Int32) (h0 : Heap) (n0 : Nat) (Z0 : n0 ≤ h0.size) (V_a1 : Bal Z h0 a1 .byte ys) (hlen : ys.length = 2) :
    MetFree l (⟨"java/lang/StringUTF16", "coderFromArrayLen", "([BI)B"⟩ : MethodName) (head1 (Jvm.Cond.code (⟨"java/lang/StringUTF16", "coderFromArrayLen", "([BI)B"⟩ : MethodName) jdk_52_method_15_code 2 (some .byte) :: ws) ({ frames := 0, cells := 0, slots := 0, locals := 0 } : Room)) (fun a U => a = #[(.ref a1), (.int (1 : Int32))] ∧ Z.Warmed39 U.vm ∧ U.heap = h0) (fun _ _ _ _ _ => True) (fun _ U o U' => ∃ v L, o = .returned v ∧ Qcf1_2 Z a1 ys h0 n0 v U'.heap L ∧ FrameEnd U o U' L ({ frames := 0, cells := 0, slots := 0, locals := 0 } : Room).cells ({ frames := 0, cells := 0, slots := 0, locals := 0 } : Room).slots) := by
  have W := @own_wd Z a0 hw
  refine MetFree.of_bodySF (plainFor_of_name pn_8) hisR ?_
  intro p e s m args below meth c s₁ Bd hml0 hP hK
  obtain ⟨rfl, hZ, hh⟩ := hP
  have hx := Bd.exec
  have hby := Bd.bytes
  have hlk : meth.locks = false := BodyLoose.notSynchronized Bd
  have hml : c.maxLocals = 2 := hml0
  have hown : s.vm.findClass "java/lang/StringUTF16" = some m.cls := findClass_of_methodNamed Bd.named
  have hnm := (name_of_methodNamed Bd.named Bd.method).1
  have X0 : Stand p l e ({ frames := 0, cells := 0, slots := 0, locals := 0 } : Room) s m #[(.ref a1), (.int (1 : Int32))] below meth c s₁ [] 0 0 := Stand.of_body Bd
  have e0 : s₁.heap = h0 := by rw [← hh, Bd.state]; rfl
  have N0 := Fr.nil n0
  show Gl p.tables e below _ _
  refine Gl.pre (fun t k => castTop (ef_cf1_2 m a1 ys) k) ?_
  refine Gl.gen (fun PP hPP => ?_)
  show Gl p.tables e below PP (s₁.setTop (mkF m 0 #[.val (.ref a1), .val (.int (1 : Int32))] []))
  refine Y.iloadN X0 hx (hb hby d8_0) rfl ?_
  refine Y.aloadN X0 hx (hb hby d8_1) rfl rfl ?_
  refine Gl.pre (fun _ k => own_len X0 hx hZ e0 V_a1 (v := (2 : Int32)) (by rw [hlen]; rfl) (g := (mkF m 2 #[.val (.ref a1), .val (.int (1 : Int32))] [(.ref a1), (.int (1 : Int32))])) rfl rfl (hb hby d8_2) _ k) ?_
  refine Y.isub X0 hx (hb hby d8_3) rfl ?_
  show Gl p.tables e below PP (s₁.setTop (mkF m 4 #[.val (.ref a1), .val (.int (1 : Int32))] [(.int ((1 : Int32) - (2 : Int32)))]))
  rw [show ((1 : Int32) - (2 : Int32)) = (-1 : Int32) by decide]
  show Gl p.tables e below PP (s₁.setTop (mkF m 4 #[.val (.ref a1), .val (.int (1 : Int32))] [(.int (-1 : Int32))]))
  refine Y.bipush X0 hx (hb hby d8_4) ?_
  refine Y.iushr X0 hx (hb hby d8_6) rfl ?_
  show Gl p.tables e below PP (s₁.setTop (mkF m 7 #[.val (.ref a1), .val (.int (1 : Int32))] [(.int (own_ushr (-1 : Int32) (31 : Int32)))]))
  rw [show (own_ushr (-1 : Int32) (31 : Int32)) = (1 : Int32) by decide]
  show Gl p.tables e below PP (s₁.setTop (mkF m 7 #[.val (.ref a1), .val (.int (1 : Int32))] [(.int (1 : Int32))]))
  refine Y.i2b X0 hx (hb hby d8_7) rfl ?_
  show Gl p.tables e below PP (s₁.setTop (mkF m 8 #[.val (.ref a1), .val (.int (1 : Int32))] [(.int ((1 : Int32).toInt8.toInt32))]))
  rw [show ((1 : Int32).toInt8.toInt32) = (1 : Int32) by decide]
  show Gl p.tables e below PP (s₁.setTop (mkF m 8 #[.val (.ref a1), .val (.int (1 : Int32))] [(.int (1 : Int32))]))
  rw [hPP]
  refine own_finN (Q := (Qcf1_2 Z a1 ys h0 n0)) X0 hx hlk Bd.returns (t := .byte) (z' := (1 : Int32)) (by simp) (by decide) (hb hby d8_8) ?_ (by decide) (by decide)
  show Qcf1_2 Z a1 ys h0 n0 _ s₁.heap _
  rw [e0]
  exact ⟨rfl, N0, rfl⟩
theorem d6_0 : decode jdk_52_method_16_code 0 = .ok (.iload_n 2, 1) := by decide +kernel
theorem d6_1 : decode jdk_52_method_16_code 1 = .ok (.newarray .byte, 2) := by decide +kernel
theorem d6_3 : decode jdk_52_method_16_code 3 = .ok (.astore_n 3, 1) := by decide +kernel
theorem d6_4 : decode jdk_52_method_16_code 4 = .ok (.aload_n 0, 1) := by decide +kernel
theorem d6_5 : decode jdk_52_method_16_code 5 = .ok (.iload_n 1, 1) := by decide +kernel
theorem d6_6 : decode jdk_52_method_16_code 6 = .ok (.aload_n 3, 1) := by decide +kernel
theorem d6_7 : decode jdk_52_method_16_code 7 = .ok (.iconst 0, 1) := by decide +kernel
theorem d6_8 : decode jdk_52_method_16_code 8 = .ok (.iload_n 2, 1) := by decide +kernel
theorem d6_9 : decode jdk_52_method_16_code 9 = .ok (.invokestatic 115, 3) := by decide +kernel
theorem d6_12 : decode jdk_52_method_16_code 12 = .ok (.istore 4, 2) := by decide +kernel
theorem d6_14 : decode jdk_52_method_16_code 14 = .ok (.iload 4, 2) := by decide +kernel
theorem d6_16 : decode jdk_52_method_16_code 16 = .ok (.iload_n 2, 1) := by decide +kernel
theorem d6_17 : decode jdk_52_method_16_code 17 = .ok (.if_icmp .eq 40, 3) := by decide +kernel
theorem d6_20 : decode jdk_52_method_16_code 20 = .ok (.aload_n 0, 1) := by decide +kernel
theorem d6_21 : decode jdk_52_method_16_code 21 = .ok (.iload_n 1, 1) := by decide +kernel
theorem d6_22 : decode jdk_52_method_16_code 22 = .ok (.iload_n 2, 1) := by decide +kernel
theorem d6_23 : decode jdk_52_method_16_code 23 = .ok (.invokestatic 119, 3) := by decide +kernel
theorem d6_26 : decode jdk_52_method_16_code 26 = .ok (.astore 5, 2) := by decide +kernel
theorem d6_28 : decode jdk_52_method_16_code 28 = .ok (.aload 5, 2) := by decide +kernel
theorem d6_30 : decode jdk_52_method_16_code 30 = .ok (.iload 4, 2) := by decide +kernel
theorem d6_32 : decode jdk_52_method_16_code 32 = .ok (.invokestatic 71, 3) := by decide +kernel
theorem d6_35 : decode jdk_52_method_16_code 35 = .ok (.sipush 255, 3) := by decide +kernel
theorem d6_38 : decode jdk_52_method_16_code 38 = .ok (.if_icmp .gt 16, 3) := by decide +kernel
theorem d6_54 : decode jdk_52_method_16_code 54 = .ok (.aload 5, 2) := by decide +kernel
theorem d6_56 : decode jdk_52_method_16_code 56 = .ok (.areturn, 1) := by decide +kernel
theorem d6_57 : decode jdk_52_method_16_code 57 = .ok (.aload_n 3, 1) := by decide +kernel
theorem d6_58 : decode jdk_52_method_16_code 58 = .ok (.areturn, 1) := by decide +kernel
theorem pn_6 : plainName "java/lang/StringUTF16" = true := by first | (simp [plainName, overriddenIn]; done) | decide +kernel
theorem ef_cm1_1 (m : MethodId) (a1 : Addr) (c0 : Int32) : entryFrame m #[(.ref a1), (.int (0 : Int32)), (.int (1 : Int32))] 6 = mkF m 0 #[.val (.ref a1), .val (.int (0 : Int32)), .val (.int (1 : Int32)), .unset, .unset, .unset] [] := by first | (simp [entryFrame, mkF, argsToLocals, Value.category]; done) | rfl
def Qcm1_1 (Z : State) (a1 : Addr) (c0 : Int32) (h0 : Heap) (n0 : Nat) (v : Option Value) (h : Heap) (L : List Loc) : Prop := ∃ b : Addr, v = some (.ref b) ∧ Fr n0 L ∧ h0.size ≤ b ∧ Keep h0 h [] ∧ Bal Z h b .byte [(nar .byte (c0.toInt8.toInt32))] ∧ Exa Z h b "[B"
set_option maxRecDepth 65536 in
set_option maxHeartbeats 40000000 in
theorem rmcm1_1 (l : Launch) (Z : State) (a0 : Array Value) (hw : ∀ d ∈ tables_1, d.before a0 Z = true) (ws : List Jvm.Cond) (a1 : Addr) (c0 : Int32) (h0 : Heap) (n0 : Nat) (Z0 : n0 ≤ h0.size) (V_a1 : Bal Z h0 a1 .char [c0]) (hc0 : ¬ ((255 : Int32) < c0)) :
    MetFree l (⟨"java/lang/StringUTF16", "compress", "([CII)[B"⟩ : MethodName) (head1 (Jvm.Cond.code (⟨"java/lang/StringUTF16", "compress", "([CII)[B"⟩ : MethodName) jdk_52_method_16_code 6 (some (.array .byte)) :: ws) ({ frames := 1, cells := 1, slots := 1, locals := 18 } : Room)) (fun a U => a = #[(.ref a1), (.int (0 : Int32)), (.int (1 : Int32))] ∧ Z.Warmed39 U.vm ∧ U.heap = h0) (fun _ _ _ _ _ => True) (fun _ U o U' => ∃ v L, o = .returned v ∧ Qcm1_1 Z a1 c0 h0 n0 v U'.heap L ∧ FrameEnd U o U' L ({ frames := 1, cells := 1, slots := 1, locals := 18 } : Room).cells ({ frames := 1, cells := 1, slots := 1, locals := 18 } : Room).slots) := by
  have W := @own_wd Z a0 hw
  refine MetFree.of_bodySF (plainFor_of_name pn_6) hisR ?_
  intro p e s m args below meth c s₁ Bd hml0 hP hK
  obtain ⟨rfl, hZ, hh⟩ := hP
  have hx := Bd.exec
  have hby := Bd.bytes
  have hlk : meth.locks = false := BodyLoose.notSynchronized Bd
  have hml : c.maxLocals = 6 := hml0
  have hown : s.vm.findClass "java/lang/StringUTF16" = some m.cls := findClass_of_methodNamed Bd.named
  have hnm := (name_of_methodNamed Bd.named Bd.method).1
  have X0 : Stand p l e ({ frames := 1, cells := 1, slots := 1, locals := 18 } : Room) s m #[(.ref a1), (.int (0 : Int32)), (.int (1 : Int32))] below meth c s₁ [] 0 0 := Stand.of_body Bd
  have e0 : s₁.heap = h0 := by rw [← hh, Bd.state]; rfl
  have N0 := Fr.nil n0
  show Gl p.tables e below _ _
  refine Gl.pre (fun t k => castTop (ef_cm1_1 m a1 c0) k) ?_
  refine Gl.gen (fun PP hPP => ?_)
  have K0 : Keep h0 h0 [] := Keep.refl h0 _
  show Gl p.tables e below PP (s₁.setTop (mkF m 0 #[.val (.ref a1), .val (.int (0 : Int32)), .val (.int (1 : Int32)), .unset, .unset, .unset] []))
  refine Y.iloadN X0 hx (hb hby d6_0) rfl ?_
  obtain ⟨T1, h1, k1, X1, e1, E1, A1, B1, st1⟩ := newPE X0 hx hZ (W 28 rfl) e0 (g := (mkF m 1 #[.val (.ref a1), .val (.int (0 : Int32)), .val (.int (1 : Int32)), .unset, .unset, .unset] [(.int (1 : Int32))])) rfl (hb hby d6_1) rfl (by decide) (cap := 1) (by decide) (by decide) (by decide) (by decide) (ad := "[B") (by first | rfl | decide | decide +kernel)
  obtain ⟨b1, g1⟩ : ∃ z, z = h0.size := ⟨_, rfl⟩
  rw [← g1] at A1 B1 st1
  refine Gl.pre (fun _ k => st1 _ k) ?_
  have own_ne_a1_b1 : a1 ≠ b1 := by have q := V_a1.lt; rw [g1]; exact Nat.ne_of_lt q
  have own_ne_b1_a1 : b1 ≠ a1 := own_ne_a1_b1.symm
  have g_b1 : n0 ≤ b1 := Nat.le_trans Z0 (Nat.le_of_eq g1.symm)
  have sz_b1 : h0.size ≤ b1 := Nat.le_trans K0.1 (Nat.le_of_eq g1.symm)
  have V_a1 := V_a1.ext E1
  have Z1 : n0 ≤ h1.size := Nat.le_trans Z0 E1.1
  have K1 := K0.ext E1
  have V_b1 : Bal Z h1 b1 .byte [(0 : Int32)] := Bal.new (ty := .byte) A1 (n := 1) (by decide) rfl
  have E_b1 := B1
  refine Y.astoreN X1 hx (hb hby d6_3) rfl rfl (l' := #[.val (.ref a1), .val (.int (0 : Int32)), .val (.int (1 : Int32)), .val (.ref b1), .unset, .unset]) rfl ?_
  refine Y.aloadN X1 hx (hb hby d6_4) rfl rfl ?_
  refine Y.iloadN X1 hx (hb hby d6_5) rfl ?_
  refine Y.aloadN X1 hx (hb hby d6_6) rfl rfl ?_
  refine Y.iconst X1 hx (hb hby d6_7) ?_
  refine Y.iloadN X1 hx (hb hby d6_8) rfl ?_
  obtain ⟨_, _, ⟨T2, L2, k2, n2⟩, -, X2, ⟨Lc2, hQ2, l2, y2, z2⟩, st2⟩ := Jvm.LawKit.callS X1 hx (y := (⟨"java/lang/StringUTF16", "compress", "([CI[BII)I"⟩ : MethodName)) hown (mvT hZ (W 29 rfl)) (mvT hZ (W 30 rfl)) (mvT hZ (W 26 rfl)) (mvT hZ (W 31 rfl)) (by decide) (backOf (W := 0) (rmcz1_1 l Z a0 hw [] a1 b1 c0 h1 n0 Z1 V_a1 V_b1 g_b1 own_ne_a1_b1 own_ne_b1_a1 hc0) hZ (W 31 rfl) (W 26 rfl) (by decide) (by decide)) (g := (mkF m 9 #[.val (.ref a1), .val (.int (0 : Int32)), .val (.int (1 : Int32)), .val (.ref b1), .unset, .unset] [(.int (1 : Int32)), (.int (0 : Int32)), (.ref b1), (.int (0 : Int32)), (.ref a1)])) rfl (by rw [hml]; rfl) (argsL := [(.ref a1), (.int (0 : Int32)), (.ref b1), (.int (0 : Int32)), (.int (1 : Int32))]) (rest := []) (lenOf pd_3 rfl) rfl (by show 2 * 0 + _ ≤ _; exact Nat.le_of_eq rfl) (hb hby d6_9) (fun _ _ => ⟨rfl, e1, (by decide : 1 + 0 ≤ _), (by decide : 1 + 0 ≤ _)⟩)
  dsimp only [Pt.U, Pt.locs, Pt.cells, Pt.slots] at X2 l2 y2 z2 st2 hQ2
  subst l2 y2 z2
  obtain ⟨rfl, N2q, K2, V2q⟩ := hQ2
  have N2 := Fr.app N0 N2q
  refine Gl.pre (fun _ k => st2 _ k) ?_
  have V_a1 := V_a1.keep K2 (ninS (own_ne_a1_b1) nin0)
  have E_b1 := E_b1.keep K2
  have Z2 : n0 ≤ T2.heap.size := Nat.le_trans Z1 K2.1
  have K2k := K1.trans K2 (allS (Or.inr sz_b1) all0)
  have V_b1 := V2q
  refine Y.istore X2 hx (hb hby d6_12) rfl (l' := #[.val (.ref a1), .val (.int (0 : Int32)), .val (.int (1 : Int32)), .val (.ref b1), .val (.int (1 : Int32)), .unset]) rfl ?_
  refine Y.iload X2 hx (hb hby d6_14) rfl ?_
  refine Y.iloadN X2 hx (hb hby d6_16) rfl ?_
  refine Y.icmpYes X2 hx (pc0 := 17) (pc' := 57) rfl (hb hby d6_17) rfl (teq (show (1 : Int32) = (1 : Int32) from (by decide))).1 (by decide) (by decide) ?_
  refine Y.aloadN X2 hx (hb hby d6_57) rfl rfl ?_
  rw [hPP]
  refine own_finA (Q := (Qcm1_1 Z a1 c0 h0 n0)) X2 hx hlk Bd.returns rfl rfl (hb hby d6_58) ?_ (by decide) (by decide)
  show Qcm1_1 Z a1 c0 h0 n0 _ T2.heap _
  exact ⟨b1, rfl, N2, sz_b1, K2k, V_b1, E_b1⟩
theorem ef_cm1_0 (m : MethodId) (a1 : Addr) (c0 : Int32) : entryFrame m #[(.ref a1), (.int (0 : Int32)), (.int (1 : Int32))] 6 = mkF m 0 #[.val (.ref a1), .val (.int (0 : Int32)), .val (.int (1 : Int32)), .unset, .unset, .unset] [] := by first | (simp [entryFrame, mkF, argsToLocals, Value.category]; done) | rfl
def Qcm1_0 (Z : State) (a1 : Addr) (c0 : Int32) (h0 : Heap) (n0 : Nat) (v : Option Value) (h : Heap) (L : List Loc) : Prop := ∃ b : Addr, v = some (.ref b) ∧ Fr n0 L ∧ h0.size ≤ b ∧ Keep h0 h [] ∧ Bal Z h b .byte [(nar .byte ((c0 >>> ((0 : Int32) &&& 31)).toInt8.toInt32)), (nar .byte ((c0 >>> ((8 : Int32) &&& 31)).toInt8.toInt32))] ∧ Exa Z h b "[B"
set_option maxRecDepth 65536 in
set_option maxHeartbeats 40000000 in
theorem rmcm1_0 (l : Launch) (Z : State) (a0 : Array Value) (hw : ∀ d ∈ tables_1, d.before a0 Z = true) (ws : List Jvm.Cond) (a1 : Addr) (c0 : Int32) (h0 : Heap) (n0 : Nat) (Z0 : n0 ≤ h0.size) (V_a1 : Bal Z h0 a1 .char [c0]) (hr0 : 0 ≤ c0.toInt ∧ c0.toInt < 65536) (hc0 : (255 : Int32) < c0) (SAD : Sta Z Z.heap "java/lang/StringUTF16" "$assertionsDisabled" "Z" (.int (1 : Int32))) (SHI : Sta Z Z.heap "java/lang/StringUTF16" "HI_BYTE_SHIFT" "I" (.int (0 : Int32))) (SLO : Sta Z Z.heap "java/lang/StringUTF16" "LO_BYTE_SHIFT" "I" (.int (8 : Int32))) (O_ : Old Z n0 h0) :
    MetFree l (⟨"java/lang/StringUTF16", "compress", "([CII)[B"⟩ : MethodName) (head1 (Jvm.Cond.code (⟨"java/lang/StringUTF16", "compress", "([CII)[B"⟩ : MethodName) jdk_52_method_16_code 6 (some (.array .byte)) :: ws) ({ frames := 3, cells := 2, slots := 3, locals := 40 } : Room)) (fun a U => a = #[(.ref a1), (.int (0 : Int32)), (.int (1 : Int32))] ∧ Z.Warmed39 U.vm ∧ U.heap = h0) (fun _ _ _ _ _ => True) (fun _ U o U' => ∃ v L, o = .returned v ∧ Qcm1_0 Z a1 c0 h0 n0 v U'.heap L ∧ FrameEnd U o U' L ({ frames := 3, cells := 2, slots := 3, locals := 40 } : Room).cells ({ frames := 3, cells := 2, slots := 3, locals := 40 } : Room).slots) := by
  have W := @own_wd Z a0 hw
  refine MetFree.of_bodySF (plainFor_of_name pn_6) hisR ?_
  intro p e s m args below meth c s₁ Bd hml0 hP hK
  obtain ⟨rfl, hZ, hh⟩ := hP
  have hx := Bd.exec
  have hby := Bd.bytes
  have hlk : meth.locks = false := BodyLoose.notSynchronized Bd
  have hml : c.maxLocals = 6 := hml0
  have hown : s.vm.findClass "java/lang/StringUTF16" = some m.cls := findClass_of_methodNamed Bd.named
  have hnm := (name_of_methodNamed Bd.named Bd.method).1
  have X0 : Stand p l e ({ frames := 3, cells := 2, slots := 3, locals := 40 } : Room) s m #[(.ref a1), (.int (0 : Int32)), (.int (1 : Int32))] below meth c s₁ [] 0 0 := Stand.of_body Bd
  have e0 : s₁.heap = h0 := by rw [← hh, Bd.state]; rfl
  have N0 := Fr.nil n0
  show Gl p.tables e below _ _
  refine Gl.pre (fun t k => castTop (ef_cm1_0 m a1 c0) k) ?_
  refine Gl.gen (fun PP hPP => ?_)
  have K0 : Keep h0 h0 [] := Keep.refl h0 _
  show Gl p.tables e below PP (s₁.setTop (mkF m 0 #[.val (.ref a1), .val (.int (0 : Int32)), .val (.int (1 : Int32)), .unset, .unset, .unset] []))
  refine Y.iloadN X0 hx (hb hby d6_0) rfl ?_
  obtain ⟨T1, h1, k1, X1, e1, E1, A1, st1⟩ := newP X0 hx hZ (W 28 rfl) e0 (g := (mkF m 1 #[.val (.ref a1), .val (.int (0 : Int32)), .val (.int (1 : Int32)), .unset, .unset, .unset] [(.int (1 : Int32))])) rfl (hb hby d6_1) rfl (by decide) (cap := 1) (by decide) (by decide) (by decide) (by decide)
  obtain ⟨b1, g1⟩ : ∃ z, z = h0.size := ⟨_, rfl⟩
  rw [← g1] at A1 st1
  refine Gl.pre (fun _ k => st1 _ k) ?_
  have own_ne_a1_b1 : a1 ≠ b1 := by have q := V_a1.lt; rw [g1]; exact Nat.ne_of_lt q
  have own_ne_b1_a1 : b1 ≠ a1 := own_ne_a1_b1.symm
  have g_b1 : n0 ≤ b1 := Nat.le_trans Z0 (Nat.le_of_eq g1.symm)
  have sz_b1 : h0.size ≤ b1 := Nat.le_trans K0.1 (Nat.le_of_eq g1.symm)
  have V_a1 := V_a1.ext E1
  have O_ := O_.ext E1
  have Z1 : n0 ≤ h1.size := Nat.le_trans Z0 E1.1
  have K1 := K0.ext E1
  have V_b1 : Bal Z h1 b1 .byte [(0 : Int32)] := Bal.new (ty := .byte) A1 (n := 1) (by decide) rfl
  refine Y.astoreN X1 hx (hb hby d6_3) rfl rfl (l' := #[.val (.ref a1), .val (.int (0 : Int32)), .val (.int (1 : Int32)), .val (.ref b1), .unset, .unset]) rfl ?_
  refine Y.aloadN X1 hx (hb hby d6_4) rfl rfl ?_
  refine Y.iloadN X1 hx (hb hby d6_5) rfl ?_
  refine Y.aloadN X1 hx (hb hby d6_6) rfl rfl ?_
  refine Y.iconst X1 hx (hb hby d6_7) ?_
  refine Y.iloadN X1 hx (hb hby d6_8) rfl ?_
  obtain ⟨_, _, ⟨T2, L2, k2, n2⟩, -, X2, ⟨Lc2, hQ2, l2, y2, z2⟩, st2⟩ := Jvm.LawKit.callS X1 hx (y := (⟨"java/lang/StringUTF16", "compress", "([CI[BII)I"⟩ : MethodName)) hown (mvT hZ (W 29 rfl)) (mvT hZ (W 30 rfl)) (mvT hZ (W 26 rfl)) (mvT hZ (W 31 rfl)) (by decide) (backOf (W := 0) (rmcz1_0 l Z a0 hw [] a1 b1 c0 h1 n0 Z1 V_a1 V_b1 g_b1 own_ne_a1_b1 own_ne_b1_a1 hc0) hZ (W 31 rfl) (W 26 rfl) (by decide) (by decide)) (g := (mkF m 9 #[.val (.ref a1), .val (.int (0 : Int32)), .val (.int (1 : Int32)), .val (.ref b1), .unset, .unset] [(.int (1 : Int32)), (.int (0 : Int32)), (.ref b1), (.int (0 : Int32)), (.ref a1)])) rfl (by rw [hml]; rfl) (argsL := [(.ref a1), (.int (0 : Int32)), (.ref b1), (.int (0 : Int32)), (.int (1 : Int32))]) (rest := []) (lenOf pd_3 rfl) rfl (by show 2 * 0 + _ ≤ _; exact Nat.le_of_eq rfl) (hb hby d6_9) (fun _ _ => ⟨rfl, e1, (by decide : 1 + 0 ≤ _), (by decide : 1 + 0 ≤ _)⟩)
  dsimp only [Pt.U, Pt.locs, Pt.cells, Pt.slots] at X2 l2 y2 z2 st2 hQ2
  subst l2 y2 z2
  obtain ⟨rfl, N2q, K2⟩ := hQ2
  have N2 := Fr.app N0 N2q
  refine Gl.pre (fun _ k => st2 _ k) ?_
  have V_a1 := V_a1.keep K2 (ninS (own_ne_a1_b1) nin0)
  have O_ := O_.keep K2 (allS g_b1 all0)
  have Z2 : n0 ≤ T2.heap.size := Nat.le_trans Z1 K2.1
  have K2k := K1.trans K2 (allS (Or.inr sz_b1) all0)
  refine Y.istore X2 hx (hb hby d6_12) rfl (l' := #[.val (.ref a1), .val (.int (0 : Int32)), .val (.int (1 : Int32)), .val (.ref b1), .val (.int (0 : Int32)), .unset]) rfl ?_
  refine Y.iload X2 hx (hb hby d6_14) rfl ?_
  refine Y.iloadN X2 hx (hb hby d6_16) rfl ?_
  refine Y.icmpNo X2 hx (hb hby d6_17) rfl (feq (show ¬ ((0 : Int32) = (1 : Int32)) from (by decide))).1 ?_
  refine Y.aloadN X2 hx (hb hby d6_20) rfl rfl ?_
  refine Y.iloadN X2 hx (hb hby d6_21) rfl ?_
  refine Y.iloadN X2 hx (hb hby d6_22) rfl ?_
  obtain ⟨_, _, ⟨T3, L3, k3, n3⟩, -, X3, ⟨Lc3, hQ3, l3, y3, z3⟩, st3⟩ := Jvm.LawKit.callS X2 hx (y := (⟨"java/lang/StringUTF16", "toBytes", "([CII)[B"⟩ : MethodName)) hown (mvT hZ (W 105 rfl)) (mvT hZ (W 106 rfl)) (mvT hZ (W 26 rfl)) (mvT hZ (W 107 rfl)) (by decide) (backOf (W := 0) (rmtb1 l Z a0 hw [] a1 c0 T2.heap n0 Z2 V_a1 SAD SHI SLO O_) hZ (W 107 rfl) (W 26 rfl) (by decide) (by decide)) (g := (mkF m 23 #[.val (.ref a1), .val (.int (0 : Int32)), .val (.int (1 : Int32)), .val (.ref b1), .val (.int (0 : Int32)), .unset] [(.int (1 : Int32)), (.int (0 : Int32)), (.ref a1)])) rfl (by rw [hml]; rfl) (argsL := [(.ref a1), (.int (0 : Int32)), (.int (1 : Int32))]) (rest := []) (lenOf pd_4 rfl) rfl (by show 2 * 0 + _ ≤ _; exact Nat.le_of_eq rfl) (hb hby d6_23) (fun _ _ => ⟨rfl, rfl, (by decide : 1 + 1 ≤ _), (by decide : 1 + 2 ≤ _)⟩)
  dsimp only [Pt.U, Pt.locs, Pt.cells, Pt.slots] at X3 l3 y3 z3 st3 hQ3
  subst l3 y3 z3
  obtain ⟨bt3, rfl, N3q, hz3, K3, V3q, Eb3⟩ := hQ3
  have N3 := Fr.app N2 N3q
  refine Gl.pre (fun _ k => st3 _ k) ?_
  have own_ne_a1_bt3 : a1 ≠ bt3 := Nat.ne_of_lt (Nat.lt_of_lt_of_le V_a1.lt hz3)
  have own_ne_bt3_a1 := own_ne_a1_bt3.symm
  have g_bt3 : n0 ≤ bt3 := Nat.le_trans Z2 hz3
  have sz_bt3 : h0.size ≤ bt3 := Nat.le_trans K2k.1 hz3
  have V_a1 := V_a1.keep K3 nin0
  have O_ := O_.keep K3 all0
  have Z3 : n0 ≤ T3.heap.size := Nat.le_trans Z2 K3.1
  have K3k := K2k.trans K3 all0
  have V_bt3 := V3q
  have E_bt3 := Eb3
  refine Y.astore X3 hx (hb hby d6_26) rfl rfl (l' := #[.val (.ref a1), .val (.int (0 : Int32)), .val (.int (1 : Int32)), .val (.ref b1), .val (.int (0 : Int32)), .val (.ref bt3)]) rfl ?_
  refine Y.aload X3 hx (hb hby d6_28) rfl rfl ?_
  refine Y.iload X3 hx (hb hby d6_30) rfl ?_
  obtain ⟨_, _, ⟨T4, L4, k4, n4⟩, -, X4, ⟨Lc4, hQ4, l4, y4, z4⟩, st4⟩ := Jvm.LawKit.callS X3 hx (y := (⟨"java/lang/StringUTF16", "getChar", "([BI)C"⟩ : MethodName)) hown (mvT hZ (W 115 rfl)) (mvT hZ (W 116 rfl)) (mvT hZ (W 26 rfl)) (mvT hZ (W 117 rfl)) (by decide) (backOf (W := 0) (rmgc1_0 l Z a0 hw [] bt3 (nar .byte ((c0 >>> ((0 : Int32) &&& 31)).toInt8.toInt32)) (nar .byte ((c0 >>> ((8 : Int32) &&& 31)).toInt8.toInt32)) T3.heap n0 Z3 V_bt3 SAD SHI SLO O_) hZ (W 117 rfl) (W 26 rfl) (by decide) (by decide)) (g := (mkF m 32 #[.val (.ref a1), .val (.int (0 : Int32)), .val (.int (1 : Int32)), .val (.ref b1), .val (.int (0 : Int32)), .val (.ref bt3)] [(.int (0 : Int32)), (.ref bt3)])) rfl (by rw [hml]; rfl) (argsL := [(.ref bt3), (.int (0 : Int32))]) (rest := []) (lenOf pd_5 rfl) rfl (by show 2 * 0 + _ ≤ _; exact Nat.le_of_eq rfl) (hb hby d6_32) (fun _ _ => ⟨rfl, rfl, (by decide : 2 + 0 ≤ _), (by decide : 3 + 0 ≤ _)⟩)
  dsimp only [Pt.U, Pt.locs, Pt.cells, Pt.slots] at X4 l4 y4 z4 st4 hQ4
  subst l4 y4 z4
  obtain ⟨rfl, N4q, e4⟩ := hQ4
  have N4 := Fr.app N3 N4q
  refine Gl.pre (fun _ k => st4 _ k) ?_
  refine Y.sipush X4 hx (hb hby d6_35) ?_
  refine Y.icmpYes X4 hx (pc0 := 38) (pc' := 54) rfl (hb hby d6_38) rfl (tlt (show (255 : Int32) < (nar .char (((((nar .byte ((c0 >>> ((0 : Int32) &&& 31)).toInt8.toInt32)) &&& (255 : Int32)) <<< ((0 : Int32) &&& 31)) ||| (((nar .byte ((c0 >>> ((8 : Int32) &&& 31)).toInt8.toInt32)) &&& (255 : Int32)) <<< ((8 : Int32) &&& 31))).toUInt32.toUInt16.toUInt32.toInt32)) from (by rw [own_gc c0 hr0.1 hr0.2]; exact hc0))).2.2.1 (by decide) (by decide) ?_
  refine Y.aload X4 hx (hb hby d6_54) rfl rfl ?_
  rw [hPP]
  refine own_finA (Q := (Qcm1_0 Z a1 c0 h0 n0)) X4 hx hlk Bd.returns rfl rfl (hb hby d6_56) ?_ (by decide) (by decide)
  show Qcm1_0 Z a1 c0 h0 n0 _ T4.heap _
  rw [e4]
  exact ⟨bt3, rfl, N4, sz_bt3, K3k, V_bt3, E_bt3⟩
theorem d4_0 : decode jdk_42_method_149_code 0 = .ok (.aload_n 0, 1) := by decide +kernel
theorem d4_1 : decode jdk_42_method_149_code 1 = .ok (.invokespecial 1, 3) := by decide +kernel
theorem d4_4 : decode jdk_42_method_149_code 4 = .ok (.iload_n 3, 1) := by decide +kernel
theorem d4_5 : decode jdk_42_method_149_code 5 = .ok (.ifCond .ne 22, 3) := by decide +kernel
theorem d4_8 : decode jdk_42_method_149_code 8 = .ok (.aload_n 0, 1) := by decide +kernel
theorem d4_9 : decode jdk_42_method_149_code 9 = .ok (.ldc 7, 2) := by decide +kernel
theorem d4_11 : decode jdk_42_method_149_code 11 = .ok (.getfield 9, 3) := by decide +kernel
theorem d4_14 : decode jdk_42_method_149_code 14 = .ok (.putfield 9, 3) := by decide +kernel
theorem d4_17 : decode jdk_42_method_149_code 17 = .ok (.aload_n 0, 1) := by decide +kernel
theorem d4_18 : decode jdk_42_method_149_code 18 = .ok (.ldc 7, 2) := by decide +kernel
theorem d4_20 : decode jdk_42_method_149_code 20 = .ok (.getfield 15, 3) := by decide +kernel
theorem d4_23 : decode jdk_42_method_149_code 23 = .ok (.putfield 15, 3) := by decide +kernel
theorem d4_26 : decode jdk_42_method_149_code 26 = .ok (.return_, 1) := by decide +kernel
theorem d4_27 : decode jdk_42_method_149_code 27 = .ok (.getstatic 38, 3) := by decide +kernel
theorem d4_30 : decode jdk_42_method_149_code 30 = .ok (.ifCond .eq 28, 3) := by decide +kernel
theorem d4_33 : decode jdk_42_method_149_code 33 = .ok (.aload_n 1, 1) := by decide +kernel
theorem d4_34 : decode jdk_42_method_149_code 34 = .ok (.iload_n 2, 1) := by decide +kernel
theorem d4_35 : decode jdk_42_method_149_code 35 = .ok (.iload_n 3, 1) := by decide +kernel
theorem d4_36 : decode jdk_42_method_149_code 36 = .ok (.invokestatic 177, 3) := by decide +kernel
theorem d4_39 : decode jdk_42_method_149_code 39 = .ok (.astore 5, 2) := by decide +kernel
theorem d4_41 : decode jdk_42_method_149_code 41 = .ok (.aload_n 0, 1) := by decide +kernel
theorem d4_42 : decode jdk_42_method_149_code 42 = .ok (.aload 5, 2) := by decide +kernel
theorem d4_44 : decode jdk_42_method_149_code 44 = .ok (.iload_n 3, 1) := by decide +kernel
theorem d4_45 : decode jdk_42_method_149_code 45 = .ok (.invokestatic 47, 3) := by decide +kernel
theorem d4_48 : decode jdk_42_method_149_code 48 = .ok (.putfield 15, 3) := by decide +kernel
theorem d4_51 : decode jdk_42_method_149_code 51 = .ok (.aload_n 0, 1) := by decide +kernel
theorem d4_52 : decode jdk_42_method_149_code 52 = .ok (.aload 5, 2) := by decide +kernel
theorem d4_54 : decode jdk_42_method_149_code 54 = .ok (.putfield 9, 3) := by decide +kernel
theorem d4_57 : decode jdk_42_method_149_code 57 = .ok (.return_, 1) := by decide +kernel
theorem pn_4 : plainName "java/lang/String" = true := by first | (simp [plainName, overriddenIn]; done) | decide +kernel
theorem ef_si1_0 (m : MethodId) (a1 : Addr) (a2 : Addr) (cs : Int32) (c0 : Int32) : entryFrame m #[(.ref a1), (.ref a2), (.int (0 : Int32)), (.int (1 : Int32)), .null] 6 = mkF m 0 #[.val (.ref a1), .val (.ref a2), .val (.int (0 : Int32)), .val (.int (1 : Int32)), .val .null, .unset] [] := by first | (simp [entryFrame, mkF, argsToLocals, Value.category]; done) | rfl
def Qsi1_0 (Z : State) (a1 : Addr) (a2 : Addr) (cs : Int32) (c0 : Int32) (h0 : Heap) (n0 : Nat) (v : Option Value) (h : Heap) (L : List Loc) : Prop := v = none ∧ Fr n0 L ∧ Keep h0 h [a1] ∧ ∃ vb : Addr, Fld Z h a1 "java/lang/String" "value" "[B" (.ref vb) ∧ Fld Z h a1 "java/lang/String" "coder" "B" (.int (1 : Int32)) ∧ Bal Z h vb .byte [(nar .byte ((c0 >>> ((0 : Int32) &&& 31)).toInt8.toInt32)), (nar .byte ((c0 >>> ((8 : Int32) &&& 31)).toInt8.toInt32))] ∧ Exa Z h vb "[B"
set_option maxRecDepth 65536 in
set_option maxHeartbeats 40000000 in
theorem rmsi1_0 (l : Launch) (Z : State) (a0 : Array Value) (hw : ∀ d ∈ tables_1, d.before a0 Z = true) (ws : List Jvm.Cond) (a1 : Addr) (a2 : Addr) (cs : Int32) (c0 : Int32) (h0 : Heap) (n0 : Nat) (Z0 : n0 ≤ h0.size) (E_a1 : Exa Z h0 a1 "java/lang/String") (F_value_a1 : Fld Z h0 a1 "java/lang/String" "value" "[B" .null) (F_coder_a1 : Fld Z h0 a1 "java/lang/String" "coder" "B" (.int (0 : Int32))) (g_a1 : n0 ≤ a1) (V_a2 : Bal Z h0 a2 .char [c0]) (own_ne_a1_a2 : a1 ≠ a2) (own_ne_a2_a1 : a2 ≠ a1) (hr0 : 0 ≤ c0.toInt ∧ c0.toInt < 65536) (hc0 : (255 : Int32) < c0) (SBC : Sta Z Z.heap "java/lang/String" "COMPACT_STRINGS" "Z" (.int cs)) (hcs : ¬ (cs = (0 : Int32))) (SAD : Sta Z Z.heap "java/lang/StringUTF16" "$assertionsDisabled" "Z" (.int (1 : Int32))) (SHI : Sta Z Z.heap "java/lang/StringUTF16" "HI_BYTE_SHIFT" "I" (.int (0 : Int32))) (SLO : Sta Z Z.heap "java/lang/StringUTF16" "LO_BYTE_SHIFT" "I" (.int (8 : Int32))) (O_ : Old Z n0 h0) :
    MetFree l (⟨"java/lang/String", "<init>", "([CIILjava/lang/Void;)V"⟩ : MethodName) (head1 (Jvm.Cond.code (⟨"java/lang/String", "<init>", "([CIILjava/lang/Void;)V"⟩ : MethodName) jdk_42_method_149_code 6 none :: ws) ({ frames := 4, cells := 2, slots := 3, locals := 57 } : Room)) (fun a U => a = #[(.ref a1), (.ref a2), (.int (0 : Int32)), (.int (1 : Int32)), .null] ∧ Z.Warmed39 U.vm ∧ U.heap = h0) (fun _ _ _ _ _ => True) (fun _ U o U' => ∃ v L, o = .returned v ∧ Qsi1_0 Z a1 a2 cs c0 h0 n0 v U'.heap L ∧ FrameEnd U o U' L ({ frames := 4, cells := 2, slots := 3, locals := 57 } : Room).cells ({ frames := 4, cells := 2, slots := 3, locals := 57 } : Room).slots) := by
  have W := @own_wd Z a0 hw
  refine MetFree.of_bodySF (plainFor_of_name pn_4) hisR ?_
  intro p e s m args below meth c s₁ Bd hml0 hP hK
  obtain ⟨rfl, hZ, hh⟩ := hP
  have hx := Bd.exec
  have hby := Bd.bytes
  have hlk : meth.locks = false := BodyLoose.notSynchronized Bd
  have hml : c.maxLocals = 6 := hml0
  have hown : s.vm.findClass "java/lang/String" = some m.cls := findClass_of_methodNamed Bd.named
  have hnm := (name_of_methodNamed Bd.named Bd.method).1
  have X0 : Stand p l e ({ frames := 4, cells := 2, slots := 3, locals := 57 } : Room) s m #[(.ref a1), (.ref a2), (.int (0 : Int32)), (.int (1 : Int32)), .null] below meth c s₁ [] 0 0 := Stand.of_body Bd
  have e0 : s₁.heap = h0 := by rw [← hh, Bd.state]; rfl
  have N0 := Fr.nil n0
  show Gl p.tables e below _ _
  refine Gl.pre (fun t k => castTop (ef_si1_0 m a1 a2 cs c0) k) ?_
  refine Gl.gen (fun PP hPP => ?_)
  have K0 : Keep h0 h0 [a1] := Keep.refl h0 _
  show Gl p.tables e below PP (s₁.setTop (mkF m 0 #[.val (.ref a1), .val (.ref a2), .val (.int (0 : Int32)), .val (.int (1 : Int32)), .val .null, .unset] []))
  refine Y.aloadN X0 hx (hb hby d4_0) rfl rfl ?_
  obtain ⟨T1, X1, e1, st1⟩ := initO X0 hx hZ hown (W 20 rfl) (W 21 rfl) (W 22 rfl) e0 (g := (mkF m 1 #[.val (.ref a1), .val (.ref a2), .val (.int (0 : Int32)), .val (.int (1 : Int32)), .val .null, .unset] [(.ref a1)])) rfl (by rw [hml]; rfl) rfl (hb hby d4_1) (by decide) (W := 0) (by show 2 * 0 + _ ≤ _; exact Nat.le_of_eq rfl) (by decide)
  refine Gl.pre (fun _ k => st1 _ k) ?_
  refine Y.iloadN X1 hx (hb hby d4_4) rfl ?_
  refine Y.ifYes X1 hx (pc0 := 5) (pc' := 27) rfl (hb hby d4_5) rfl ((if0 _ _).trans (feq (show ¬ ((1 : Int32) = (0 : Int32)) from (by decide))).2) (by decide) (by decide) ?_
  obtain ⟨T2, X2, e2, st2⟩ := getS2 X1 hx hZ hown (host := "") (Or.inl (W 23 rfl)) Via.refl e1 (SBC.ext O_.2) (g := (mkF m 27 #[.val (.ref a1), .val (.ref a2), .val (.int (0 : Int32)), .val (.int (1 : Int32)), .val .null, .unset] [])) rfl (hb hby d4_27)
  refine Gl.pre (fun _ k => st2 _ k) ?_
  refine Y.ifNo X2 hx (hb hby d4_30) rfl ((if0 _ _).trans (feq (show ¬ (cs = (0 : Int32)) from hcs)).1) ?_
  refine Y.aloadN X2 hx (hb hby d4_33) rfl rfl ?_
  refine Y.iloadN X2 hx (hb hby d4_34) rfl ?_
  refine Y.iloadN X2 hx (hb hby d4_35) rfl ?_
  obtain ⟨_, _, ⟨T3, L3, k3, n3⟩, -, X3, ⟨Lc3, hQ3, l3, y3, z3⟩, st3⟩ := Jvm.LawKit.callS X2 hx (y := (⟨"java/lang/StringUTF16", "compress", "([CII)[B"⟩ : MethodName)) hown (mvT hZ (W 24 rfl)) (mvT hZ (W 25 rfl)) (mvT hZ (W 26 rfl)) (mvT hZ (W 27 rfl)) (by decide) (backOf (W := 0) (rmcm1_0 l Z a0 hw [] a2 c0 h0 n0 Z0 V_a2 hr0 hc0 SAD SHI SLO O_) hZ (W 27 rfl) (W 26 rfl) (by decide) (by decide)) (g := (mkF m 36 #[.val (.ref a1), .val (.ref a2), .val (.int (0 : Int32)), .val (.int (1 : Int32)), .val .null, .unset] [(.int (1 : Int32)), (.int (0 : Int32)), (.ref a2)])) rfl (by rw [hml]; rfl) (argsL := [(.ref a2), (.int (0 : Int32)), (.int (1 : Int32))]) (rest := []) (lenOf pd_4 rfl) rfl (by show 2 * 0 + _ ≤ _; exact Nat.le_of_eq rfl) (hb hby d4_36) (fun _ _ => ⟨rfl, e2, (by decide : 0 + 2 ≤ _), (by decide : 0 + 3 ≤ _)⟩)
  dsimp only [Pt.U, Pt.locs, Pt.cells, Pt.slots] at X3 l3 y3 z3 st3 hQ3
  subst l3 y3 z3
  obtain ⟨bc3, rfl, N3q, hz3, K3, V3q, Eb3⟩ := hQ3
  have N3 := Fr.app N0 N3q
  refine Gl.pre (fun _ k => st3 _ k) ?_
  have own_ne_a1_bc3 : a1 ≠ bc3 := Nat.ne_of_lt (Nat.lt_of_lt_of_le E_a1.lt hz3)
  have own_ne_bc3_a1 := own_ne_a1_bc3.symm
  have own_ne_a2_bc3 : a2 ≠ bc3 := Nat.ne_of_lt (Nat.lt_of_lt_of_le V_a2.lt hz3)
  have own_ne_bc3_a2 := own_ne_a2_bc3.symm
  have g_bc3 : n0 ≤ bc3 := Nat.le_trans Z0 hz3
  have sz_bc3 : h0.size ≤ bc3 := Nat.le_trans K0.1 hz3
  have E_a1 := E_a1.keep K3
  have F_value_a1 := F_value_a1.keep K3 nin0
  have F_coder_a1 := F_coder_a1.keep K3 nin0
  have V_a2 := V_a2.keep K3 nin0
  have O_ := O_.keep K3 all0
  have Z3 : n0 ≤ T3.heap.size := Nat.le_trans Z0 K3.1
  have K3k := K0.trans K3 all0
  have V_bc3 := V3q
  have E_bc3 := Eb3
  refine Y.astore X3 hx (hb hby d4_39) rfl rfl (l' := #[.val (.ref a1), .val (.ref a2), .val (.int (0 : Int32)), .val (.int (1 : Int32)), .val .null, .val (.ref bc3)]) rfl ?_
  refine Y.aloadN X3 hx (hb hby d4_41) rfl rfl ?_
  refine Y.aload X3 hx (hb hby d4_42) rfl rfl ?_
  refine Y.iloadN X3 hx (hb hby d4_44) rfl ?_
  obtain ⟨_, _, ⟨T4, L4, k4, n4⟩, -, X4, ⟨Lc4, hQ4, l4, y4, z4⟩, st4⟩ := Jvm.LawKit.callS X3 hx (y := (⟨"java/lang/StringUTF16", "coderFromArrayLen", "([BI)B"⟩ : MethodName)) hown (mvT hZ (W 32 rfl)) (mvT hZ (W 33 rfl)) (mvT hZ (W 26 rfl)) (mvT hZ (W 34 rfl)) (by decide) (backOf (W := 1) (rmcf1_2 l Z a0 hw [] bc3 ([(nar .byte ((c0 >>> ((0 : Int32) &&& 31)).toInt8.toInt32)), (nar .byte ((c0 >>> ((8 : Int32) &&& 31)).toInt8.toInt32))]) T3.heap n0 Z3 V_bc3 rfl) hZ (W 34 rfl) (W 26 rfl) (by decide) (by decide)) (g := (mkF m 45 #[.val (.ref a1), .val (.ref a2), .val (.int (0 : Int32)), .val (.int (1 : Int32)), .val .null, .val (.ref bc3)] [(.int (1 : Int32)), (.ref bc3), (.ref a1)])) rfl (by rw [hml]; rfl) (argsL := [(.ref bc3), (.int (1 : Int32))]) (rest := [(.ref a1)]) (lenOf pd_6 rfl) rfl (by show 2 * 0 + _ ≤ _; exact Nat.le_of_eq rfl) (hb hby d4_45) (fun _ _ => ⟨rfl, rfl, (by decide : 2 + 0 ≤ _), (by decide : 3 + 0 ≤ _)⟩)
  dsimp only [Pt.U, Pt.locs, Pt.cells, Pt.slots] at X4 l4 y4 z4 st4 hQ4
  subst l4 y4 z4
  obtain ⟨rfl, N4q, e4⟩ := hQ4
  have N4 := Fr.app N3 N4q
  refine Gl.pre (fun _ k => st4 _ k) ?_
  obtain ⟨T5, h5, X5, e5, W5, st5⟩ := putFN X4 hx hZ hown (W 35 rfl) Via.refl e4 F_coder_a1 E_a1 (Or.inr ⟨(W 36 rfl), rfl, hnm⟩) (W 7 rfl) (ty := .byte) (v' := (.int (1 : Int32))) (by decide) rfl rfl (g := (mkF m 48 #[.val (.ref a1), .val (.ref a2), .val (.int (0 : Int32)), .val (.int (1 : Int32)), .val .null, .val (.ref bc3)] [(.int (1 : Int32)), (.ref a1)])) rfl rfl (hb hby d4_48)
  refine Gl.pre (fun _ k => st5 _ k) ?_
  have E_a1 := E_a1.wr W5
  have F_value_a1 := F_value_a1.other W5 (Or.inr (slot_ne (Or.inr (W 38 rfl)) (Or.inr (W 36 rfl)) (by decide) (t := (.array .byte)) (t' := .byte) (by decide) (by decide)))
  have F_coder_a1 := F_coder_a1.same W5
  have V_a2 := V_a2.other W5 (own_ne_a2_a1)
  have O_ := O_.wr W5 g_a1
  have V_bc3 := V_bc3.other W5 (own_ne_bc3_a1)
  have E_bc3 := E_bc3.wr W5
  have Z5 : n0 ≤ h5.size := by rw [W5.size]; exact Z3
  have N5 := Fr.snoc X5 N4 g_a1
  have K5 := K3k.wr W5 (Or.inl (List.mem_of_getElem? (i := 0) rfl))
  refine Y.aloadN X5 hx (hb hby d4_51) rfl rfl ?_
  refine Y.aload X5 hx (hb hby d4_52) rfl rfl ?_
  obtain ⟨T6, h6, X6, e6, W6, st6⟩ := putF X5 hx hZ hown (host := "") (Or.inl (W 37 rfl)) Via.refl e5 F_value_a1 E_a1 (Or.inr ⟨(W 38 rfl), rfl, hnm⟩) (W 7 rfl) (ty := (.array .byte)) (by decide) rfl rfl (g := (mkF m 54 #[.val (.ref a1), .val (.ref a2), .val (.int (0 : Int32)), .val (.int (1 : Int32)), .val .null, .val (.ref bc3)] [(.ref bc3), (.ref a1)])) rfl rfl (hb hby d4_54)
  refine Gl.pre (fun _ k => st6 _ k) ?_
  have E_a1 := E_a1.wr W6
  have F_value_a1 := F_value_a1.same W6
  have F_coder_a1 := F_coder_a1.other W6 (Or.inr (slot_ne (Or.inr (W 36 rfl)) (Or.inr (W 38 rfl)) (by decide) (t := .byte) (t' := (.array .byte)) (by decide) (by decide)))
  have V_a2 := V_a2.other W6 (own_ne_a2_a1)
  have O_ := O_.wr W6 g_a1
  have V_bc3 := V_bc3.other W6 (own_ne_bc3_a1)
  have E_bc3 := E_bc3.wr W6
  have Z6 : n0 ≤ h6.size := by rw [W6.size]; exact Z5
  have N6 := Fr.snoc X6 N5 g_a1
  have K6 := K5.wr W6 (Or.inl (List.mem_of_getElem? (i := 0) rfl))
  rw [hPP]
  refine own_finV (Q := (Qsi1_0 Z a1 a2 cs c0 h0 n0)) X6 hx hlk Bd.returns (hb hby d4_57) ?_ (by decide) (by decide)
  show Qsi1_0 Z a1 a2 cs c0 h0 n0 _ T6.heap _
  rw [e6]
  exact ⟨rfl, N6, K6, bc3, F_value_a1, F_coder_a1, V_bc3, E_bc3⟩
theorem ef_si1_1 (m : MethodId) (a1 : Addr) (a2 : Addr) (cs : Int32) (c0 : Int32) : entryFrame m #[(.ref a1), (.ref a2), (.int (0 : Int32)), (.int (1 : Int32)), .null] 6 = mkF m 0 #[.val (.ref a1), .val (.ref a2), .val (.int (0 : Int32)), .val (.int (1 : Int32)), .val .null, .unset] [] := by first | (simp [entryFrame, mkF, argsToLocals, Value.category]; done) | rfl
def Qsi1_1 (Z : State) (a1 : Addr) (a2 : Addr) (cs : Int32) (c0 : Int32) (h0 : Heap) (n0 : Nat) (v : Option Value) (h : Heap) (L : List Loc) : Prop := v = none ∧ Fr n0 L ∧ Keep h0 h [a1] ∧ ∃ vb : Addr, Fld Z h a1 "java/lang/String" "value" "[B" (.ref vb) ∧ Fld Z h a1 "java/lang/String" "coder" "B" (.int (0 : Int32)) ∧ Bal Z h vb .byte [(nar .byte (c0.toInt8.toInt32))] ∧ Exa Z h vb "[B"
set_option maxRecDepth 65536 in
set_option maxHeartbeats 40000000 in
theorem rmsi1_1 (l : Launch) (Z : State) (a0 : Array Value) (hw : ∀ d ∈ tables_1, d.before a0 Z = true) (ws : List Jvm.Cond) (a1 : Addr) (a2 : Addr) (cs : Int32) (c0 : Int32) (h0 : Heap) (n0 : Nat) (Z0 : n0 ≤ h0.size) (E_a1 : Exa Z h0 a1 "java/lang/String") (F_value_a1 : Fld Z h0 a1 "java/lang/String" "value" "[B" .null) (F_coder_a1 : Fld Z h0 a1 "java/lang/String" "coder" "B" (.int (0 : Int32))) (g_a1 : n0 ≤ a1) (V_a2 : Bal Z h0 a2 .char [c0]) (own_ne_a1_a2 : a1 ≠ a2) (own_ne_a2_a1 : a2 ≠ a1) (hr0 : 0 ≤ c0.toInt ∧ c0.toInt < 65536) (hc0 : ¬ ((255 : Int32) < c0)) (SBC : Sta Z Z.heap "java/lang/String" "COMPACT_STRINGS" "Z" (.int cs)) (hcs : ¬ (cs = (0 : Int32))) (SAD : Sta Z Z.heap "java/lang/StringUTF16" "$assertionsDisabled" "Z" (.int (1 : Int32))) (SHI : Sta Z Z.heap "java/lang/StringUTF16" "HI_BYTE_SHIFT" "I" (.int (0 : Int32))) (SLO : Sta Z Z.heap "java/lang/StringUTF16" "LO_BYTE_SHIFT" "I" (.int (8 : Int32))) (O_ : Old Z n0 h0) :
    MetFree l (⟨"java/lang/String", "<init>", "([CIILjava/lang/Void;)V"⟩ : MethodName) (head1 (Jvm.Cond.code (⟨"java/lang/String", "<init>", "([CIILjava/lang/Void;)V"⟩ : MethodName) jdk_42_method_149_code 6 none :: ws) ({ frames := 2, cells := 1, slots := 1, locals := 35 } : Room)) (fun a U => a = #[(.ref a1), (.ref a2), (.int (0 : Int32)), (.int (1 : Int32)), .null] ∧ Z.Warmed39 U.vm ∧ U.heap = h0) (fun _ _ _ _ _ => True) (fun _ U o U' => ∃ v L, o = .returned v ∧ Qsi1_1 Z a1 a2 cs c0 h0 n0 v U'.heap L ∧ FrameEnd U o U' L ({ frames := 2, cells := 1, slots := 1, locals := 35 } : Room).cells ({ frames := 2, cells := 1, slots := 1, locals := 35 } : Room).slots) := by
  have W := @own_wd Z a0 hw
  refine MetFree.of_bodySF (plainFor_of_name pn_4) hisR ?_
  intro p e s m args below meth c s₁ Bd hml0 hP hK
  obtain ⟨rfl, hZ, hh⟩ := hP
  have hx := Bd.exec
  have hby := Bd.bytes
  have hlk : meth.locks = false := BodyLoose.notSynchronized Bd
  have hml : c.maxLocals = 6 := hml0
  have hown : s.vm.findClass "java/lang/String" = some m.cls := findClass_of_methodNamed Bd.named
  have hnm := (name_of_methodNamed Bd.named Bd.method).1
  have X0 : Stand p l e ({ frames := 2, cells := 1, slots := 1, locals := 35 } : Room) s m #[(.ref a1), (.ref a2), (.int (0 : Int32)), (.int (1 : Int32)), .null] below meth c s₁ [] 0 0 := Stand.of_body Bd
  have e0 : s₁.heap = h0 := by rw [← hh, Bd.state]; rfl
  have N0 := Fr.nil n0
  show Gl p.tables e below _ _
  refine Gl.pre (fun t k => castTop (ef_si1_1 m a1 a2 cs c0) k) ?_
  refine Gl.gen (fun PP hPP => ?_)
  have K0 : Keep h0 h0 [a1] := Keep.refl h0 _
  show Gl p.tables e below PP (s₁.setTop (mkF m 0 #[.val (.ref a1), .val (.ref a2), .val (.int (0 : Int32)), .val (.int (1 : Int32)), .val .null, .unset] []))
  refine Y.aloadN X0 hx (hb hby d4_0) rfl rfl ?_
  obtain ⟨T1, X1, e1, st1⟩ := initO X0 hx hZ hown (W 20 rfl) (W 21 rfl) (W 22 rfl) e0 (g := (mkF m 1 #[.val (.ref a1), .val (.ref a2), .val (.int (0 : Int32)), .val (.int (1 : Int32)), .val .null, .unset] [(.ref a1)])) rfl (by rw [hml]; rfl) rfl (hb hby d4_1) (by decide) (W := 0) (by show 2 * 0 + _ ≤ _; exact Nat.le_of_eq rfl) (by decide)
  refine Gl.pre (fun _ k => st1 _ k) ?_
  refine Y.iloadN X1 hx (hb hby d4_4) rfl ?_
  refine Y.ifYes X1 hx (pc0 := 5) (pc' := 27) rfl (hb hby d4_5) rfl ((if0 _ _).trans (feq (show ¬ ((1 : Int32) = (0 : Int32)) from (by decide))).2) (by decide) (by decide) ?_
  obtain ⟨T2, X2, e2, st2⟩ := getS2 X1 hx hZ hown (host := "") (Or.inl (W 23 rfl)) Via.refl e1 (SBC.ext O_.2) (g := (mkF m 27 #[.val (.ref a1), .val (.ref a2), .val (.int (0 : Int32)), .val (.int (1 : Int32)), .val .null, .unset] [])) rfl (hb hby d4_27)
  refine Gl.pre (fun _ k => st2 _ k) ?_
  refine Y.ifNo X2 hx (hb hby d4_30) rfl ((if0 _ _).trans (feq (show ¬ (cs = (0 : Int32)) from hcs)).1) ?_
  refine Y.aloadN X2 hx (hb hby d4_33) rfl rfl ?_
  refine Y.iloadN X2 hx (hb hby d4_34) rfl ?_
  refine Y.iloadN X2 hx (hb hby d4_35) rfl ?_
  obtain ⟨_, _, ⟨T3, L3, k3, n3⟩, -, X3, ⟨Lc3, hQ3, l3, y3, z3⟩, st3⟩ := Jvm.LawKit.callS X2 hx (y := (⟨"java/lang/StringUTF16", "compress", "([CII)[B"⟩ : MethodName)) hown (mvT hZ (W 24 rfl)) (mvT hZ (W 25 rfl)) (mvT hZ (W 26 rfl)) (mvT hZ (W 27 rfl)) (by decide) (backOf (W := 0) (rmcm1_1 l Z a0 hw [] a2 c0 h0 n0 Z0 V_a2 hc0) hZ (W 27 rfl) (W 26 rfl) (by decide) (by decide)) (g := (mkF m 36 #[.val (.ref a1), .val (.ref a2), .val (.int (0 : Int32)), .val (.int (1 : Int32)), .val .null, .unset] [(.int (1 : Int32)), (.int (0 : Int32)), (.ref a2)])) rfl (by rw [hml]; rfl) (argsL := [(.ref a2), (.int (0 : Int32)), (.int (1 : Int32))]) (rest := []) (lenOf pd_4 rfl) rfl (by show 2 * 0 + _ ≤ _; exact Nat.le_of_eq rfl) (hb hby d4_36) (fun _ _ => ⟨rfl, e2, (by decide : 0 + 1 ≤ _), (by decide : 0 + 1 ≤ _)⟩)
  dsimp only [Pt.U, Pt.locs, Pt.cells, Pt.slots] at X3 l3 y3 z3 st3 hQ3
  subst l3 y3 z3
  obtain ⟨bc3, rfl, N3q, hz3, K3, V3q, Eb3⟩ := hQ3
  have N3 := Fr.app N0 N3q
  refine Gl.pre (fun _ k => st3 _ k) ?_
  have own_ne_a1_bc3 : a1 ≠ bc3 := Nat.ne_of_lt (Nat.lt_of_lt_of_le E_a1.lt hz3)
  have own_ne_bc3_a1 := own_ne_a1_bc3.symm
  have own_ne_a2_bc3 : a2 ≠ bc3 := Nat.ne_of_lt (Nat.lt_of_lt_of_le V_a2.lt hz3)
  have own_ne_bc3_a2 := own_ne_a2_bc3.symm
  have g_bc3 : n0 ≤ bc3 := Nat.le_trans Z0 hz3
  have sz_bc3 : h0.size ≤ bc3 := Nat.le_trans K0.1 hz3
  have E_a1 := E_a1.keep K3
  have F_value_a1 := F_value_a1.keep K3 nin0
  have F_coder_a1 := F_coder_a1.keep K3 nin0
  have V_a2 := V_a2.keep K3 nin0
  have O_ := O_.keep K3 all0
  have Z3 : n0 ≤ T3.heap.size := Nat.le_trans Z0 K3.1
  have K3k := K0.trans K3 all0
  have V_bc3 := V3q
  have E_bc3 := Eb3
  refine Y.astore X3 hx (hb hby d4_39) rfl rfl (l' := #[.val (.ref a1), .val (.ref a2), .val (.int (0 : Int32)), .val (.int (1 : Int32)), .val .null, .val (.ref bc3)]) rfl ?_
  refine Y.aloadN X3 hx (hb hby d4_41) rfl rfl ?_
  refine Y.aload X3 hx (hb hby d4_42) rfl rfl ?_
  refine Y.iloadN X3 hx (hb hby d4_44) rfl ?_
  obtain ⟨_, _, ⟨T4, L4, k4, n4⟩, -, X4, ⟨Lc4, hQ4, l4, y4, z4⟩, st4⟩ := Jvm.LawKit.callS X3 hx (y := (⟨"java/lang/StringUTF16", "coderFromArrayLen", "([BI)B"⟩ : MethodName)) hown (mvT hZ (W 32 rfl)) (mvT hZ (W 33 rfl)) (mvT hZ (W 26 rfl)) (mvT hZ (W 34 rfl)) (by decide) (backOf (W := 1) (rmcf1_1 l Z a0 hw [] bc3 ([(nar .byte (c0.toInt8.toInt32))]) T3.heap n0 Z3 V_bc3 rfl) hZ (W 34 rfl) (W 26 rfl) (by decide) (by decide)) (g := (mkF m 45 #[.val (.ref a1), .val (.ref a2), .val (.int (0 : Int32)), .val (.int (1 : Int32)), .val .null, .val (.ref bc3)] [(.int (1 : Int32)), (.ref bc3), (.ref a1)])) rfl (by rw [hml]; rfl) (argsL := [(.ref bc3), (.int (1 : Int32))]) (rest := [(.ref a1)]) (lenOf pd_6 rfl) rfl (by show 2 * 0 + _ ≤ _; exact Nat.le_of_eq rfl) (hb hby d4_45) (fun _ _ => ⟨rfl, rfl, (by decide : 1 + 0 ≤ _), (by decide : 1 + 0 ≤ _)⟩)
  dsimp only [Pt.U, Pt.locs, Pt.cells, Pt.slots] at X4 l4 y4 z4 st4 hQ4
  subst l4 y4 z4
  obtain ⟨rfl, N4q, e4⟩ := hQ4
  have N4 := Fr.app N3 N4q
  refine Gl.pre (fun _ k => st4 _ k) ?_
  obtain ⟨T5, h5, X5, e5, W5, st5⟩ := putFN X4 hx hZ hown (W 35 rfl) Via.refl e4 F_coder_a1 E_a1 (Or.inr ⟨(W 36 rfl), rfl, hnm⟩) (W 7 rfl) (ty := .byte) (v' := (.int (0 : Int32))) (by decide) rfl rfl (g := (mkF m 48 #[.val (.ref a1), .val (.ref a2), .val (.int (0 : Int32)), .val (.int (1 : Int32)), .val .null, .val (.ref bc3)] [(.int (0 : Int32)), (.ref a1)])) rfl rfl (hb hby d4_48)
  refine Gl.pre (fun _ k => st5 _ k) ?_
  have E_a1 := E_a1.wr W5
  have F_value_a1 := F_value_a1.other W5 (Or.inr (slot_ne (Or.inr (W 38 rfl)) (Or.inr (W 36 rfl)) (by decide) (t := (.array .byte)) (t' := .byte) (by decide) (by decide)))
  have F_coder_a1 := F_coder_a1.same W5
  have V_a2 := V_a2.other W5 (own_ne_a2_a1)
  have O_ := O_.wr W5 g_a1
  have V_bc3 := V_bc3.other W5 (own_ne_bc3_a1)
  have E_bc3 := E_bc3.wr W5
  have Z5 : n0 ≤ h5.size := by rw [W5.size]; exact Z3
  have N5 := Fr.snoc X5 N4 g_a1
  have K5 := K3k.wr W5 (Or.inl (List.mem_of_getElem? (i := 0) rfl))
  refine Y.aloadN X5 hx (hb hby d4_51) rfl rfl ?_
  refine Y.aload X5 hx (hb hby d4_52) rfl rfl ?_
  obtain ⟨T6, h6, X6, e6, W6, st6⟩ := putF X5 hx hZ hown (host := "") (Or.inl (W 37 rfl)) Via.refl e5 F_value_a1 E_a1 (Or.inr ⟨(W 38 rfl), rfl, hnm⟩) (W 7 rfl) (ty := (.array .byte)) (by decide) rfl rfl (g := (mkF m 54 #[.val (.ref a1), .val (.ref a2), .val (.int (0 : Int32)), .val (.int (1 : Int32)), .val .null, .val (.ref bc3)] [(.ref bc3), (.ref a1)])) rfl rfl (hb hby d4_54)
  refine Gl.pre (fun _ k => st6 _ k) ?_
  have E_a1 := E_a1.wr W6
  have F_value_a1 := F_value_a1.same W6
  have F_coder_a1 := F_coder_a1.other W6 (Or.inr (slot_ne (Or.inr (W 36 rfl)) (Or.inr (W 38 rfl)) (by decide) (t := .byte) (t' := (.array .byte)) (by decide) (by decide)))
  have V_a2 := V_a2.other W6 (own_ne_a2_a1)
  have O_ := O_.wr W6 g_a1
  have V_bc3 := V_bc3.other W6 (own_ne_bc3_a1)
  have E_bc3 := E_bc3.wr W6
  have Z6 : n0 ≤ h6.size := by rw [W6.size]; exact Z5
  have N6 := Fr.snoc X6 N5 g_a1
  have K6 := K5.wr W6 (Or.inl (List.mem_of_getElem? (i := 0) rfl))
  rw [hPP]
  refine own_finV (Q := (Qsi1_1 Z a1 a2 cs c0 h0 n0)) X6 hx hlk Bd.returns (hb hby d4_57) ?_ (by decide) (by decide)
  show Qsi1_1 Z a1 a2 cs c0 h0 n0 _ T6.heap _
  rw [e6]
  exact ⟨rfl, N6, K6, bc3, F_value_a1, F_coder_a1, V_bc3, E_bc3⟩
theorem ef_cz2_2 (m : MethodId) (a1 : Addr) (a2 : Addr) (c0 : Int32) (c1 : Int32) : entryFrame m #[(.ref a1), (.int (0 : Int32)), (.ref a2), (.int (0 : Int32)), (.int (2 : Int32))] 7 = mkF m 0 #[.val (.ref a1), .val (.int (0 : Int32)), .val (.ref a2), .val (.int (0 : Int32)), .val (.int (2 : Int32)), .unset, .unset] [] := by first | (simp [entryFrame, mkF, argsToLocals, Value.category]; done) | rfl
def Qcz2_2 (Z : State) (a1 : Addr) (a2 : Addr) (c0 : Int32) (c1 : Int32) (h0 : Heap) (n0 : Nat) (v : Option Value) (h : Heap) (L : List Loc) : Prop := v = some (.int (2 : Int32)) ∧ Fr n0 L ∧ Keep h0 h [a2] ∧ Bal Z h a2 .byte [(nar .byte (c0.toInt8.toInt32)), (nar .byte (c1.toInt8.toInt32))]
set_option maxRecDepth 65536 in
set_option maxHeartbeats 40000000 in
theorem rmcz2_2 (l : Launch) (Z : State) (a0 : Array Value) (hw : ∀ d ∈ tables_1, d.before a0 Z = true) (ws : List Jvm.Cond) (a1 : Addr) (a2 : Addr) (c0 : Int32) (c1 : Int32) (h0 : Heap) (n0 : Nat) (Z0 : n0 ≤ h0.size) (V_a1 : Bal Z h0 a1 .char [c0, c1]) (V_a2 : Bal Z h0 a2 .byte [(0 : Int32), (0 : Int32)]) (g_a2 : n0 ≤ a2) (own_ne_a1_a2 : a1 ≠ a2) (own_ne_a2_a1 : a2 ≠ a1) (hc0 : ¬ ((255 : Int32) < c0)) (hc1 : ¬ ((255 : Int32) < c1)) :
    MetFree l (⟨"java/lang/StringUTF16", "compress", "([CI[BII)I"⟩ : MethodName) (head1 (Jvm.Cond.code (⟨"java/lang/StringUTF16", "compress", "([CI[BII)I"⟩ : MethodName) jdk_52_method_21_code 7 (some .int) :: ws) ({ frames := 0, cells := 0, slots := 0, locals := 0 } : Room)) (fun a U => a = #[(.ref a1), (.int (0 : Int32)), (.ref a2), (.int (0 : Int32)), (.int (2 : Int32))] ∧ Z.Warmed39 U.vm ∧ U.heap = h0) (fun _ _ _ _ _ => True) (fun _ U o U' => ∃ v L, o = .returned v ∧ Qcz2_2 Z a1 a2 c0 c1 h0 n0 v U'.heap L ∧ FrameEnd U o U' L ({ frames := 0, cells := 0, slots := 0, locals := 0 } : Room).cells ({ frames := 0, cells := 0, slots := 0, locals := 0 } : Room).slots) := by
  have W := @own_wd Z a0 hw
  refine MetFree.of_bodySF (plainFor_of_name pn_7) hisR ?_
  intro p e s m args below meth c s₁ Bd hml0 hP hK
  obtain ⟨rfl, hZ, hh⟩ := hP
  have hx := Bd.exec
  have hby := Bd.bytes
  have hlk : meth.locks = false := BodyLoose.notSynchronized Bd
  have hml : c.maxLocals = 7 := hml0
  have hown : s.vm.findClass "java/lang/StringUTF16" = some m.cls := findClass_of_methodNamed Bd.named
  have hnm := (name_of_methodNamed Bd.named Bd.method).1
  have X0 : Stand p l e ({ frames := 0, cells := 0, slots := 0, locals := 0 } : Room) s m #[(.ref a1), (.int (0 : Int32)), (.ref a2), (.int (0 : Int32)), (.int (2 : Int32))] below meth c s₁ [] 0 0 := Stand.of_body Bd
  have e0 : s₁.heap = h0 := by rw [← hh, Bd.state]; rfl
  have N0 := Fr.nil n0
  show Gl p.tables e below _ _
  refine Gl.pre (fun t k => castTop (ef_cz2_2 m a1 a2 c0 c1) k) ?_
  refine Gl.gen (fun PP hPP => ?_)
  have K0 : Keep h0 h0 [a2] := Keep.refl h0 _
  show Gl p.tables e below PP (s₁.setTop (mkF m 0 #[.val (.ref a1), .val (.int (0 : Int32)), .val (.ref a2), .val (.int (0 : Int32)), .val (.int (2 : Int32)), .unset, .unset] []))
  refine Y.iconst X0 hx (hb hby d7_0) ?_
  refine Y.istore X0 hx (hb hby d7_1) rfl (l' := #[.val (.ref a1), .val (.int (0 : Int32)), .val (.ref a2), .val (.int (0 : Int32)), .val (.int (2 : Int32)), .val (.int (0 : Int32)), .unset]) rfl ?_
  refine Y.iload X0 hx (hb hby d7_3) rfl ?_
  refine Y.iload X0 hx (hb hby d7_5) rfl ?_
  refine Y.icmpNo X0 hx (hb hby d7_7) rfl (tlt (show (0 : Int32) < (2 : Int32) from (by decide))).2.1 ?_
  refine Y.aloadN X0 hx (hb hby d7_10) rfl rfl ?_
  refine Y.iloadN X0 hx (hb hby d7_11) rfl ?_
  refine Gl.pre (fun _ k => own_ldC X0 hx hZ e0 V_a1 (j := (0 : Int32)) (i := 0) (by decide) (by decide) (Nat.lt_of_lt_of_eq (by decide : 0 < 2) rfl) (v := c0) rfl (g := (mkF m 12 #[.val (.ref a1), .val (.int (0 : Int32)), .val (.ref a2), .val (.int (0 : Int32)), .val (.int (2 : Int32)), .val (.int (0 : Int32)), .unset] [(.int (0 : Int32)), (.ref a1)])) rfl rfl (hb hby d7_12) _ k) ?_
  refine Y.istore X0 hx (hb hby d7_13) rfl (l' := #[.val (.ref a1), .val (.int (0 : Int32)), .val (.ref a2), .val (.int (0 : Int32)), .val (.int (2 : Int32)), .val (.int (0 : Int32)), .val (.int c0)]) rfl ?_
  refine Y.iload X0 hx (hb hby d7_15) rfl ?_
  refine Y.sipush X0 hx (hb hby d7_17) ?_
  refine Y.icmpYes X0 hx (pc0 := 20) (pc' := 26) rfl (hb hby d7_20) rfl (flt (show ¬ ((255 : Int32) < c0) from hc0)).2.2.2 (by decide) (by decide) ?_
  refine Y.aloadN X0 hx (hb hby d7_26) rfl rfl ?_
  refine Y.iloadN X0 hx (hb hby d7_27) rfl ?_
  refine Y.iload X0 hx (hb hby d7_28) rfl ?_
  refine Y.i2b X0 hx (hb hby d7_30) rfl ?_
  obtain ⟨T1, h1, X1, e1, W1, V1, st1⟩ := own_stB X0 hx hZ e0 V_a2 (j := (0 : Int32)) (i := 0) (by decide) (by decide) (Nat.lt_of_lt_of_eq (by decide : 0 < 2) rfl) (g := (mkF m 31 #[.val (.ref a1), .val (.int (0 : Int32)), .val (.ref a2), .val (.int (0 : Int32)), .val (.int (2 : Int32)), .val (.int (0 : Int32)), .val (.int c0)] [(.int (c0.toInt8.toInt32)), (.int (0 : Int32)), (.ref a2)])) rfl rfl (hb hby d7_31)
  refine Gl.pre (fun _ k => st1 _ k) ?_
  have V_a1 := V_a1.other W1 (own_ne_a1_a2)
  have Z1 : n0 ≤ h1.size := by rw [W1.size]; exact Z0
  have N1 := Fr.snoc X1 N0 g_a2
  have K1 := K0.wr W1 (Or.inl (List.mem_of_getElem? (i := 0) rfl))
  have V_a2 : Bal Z h1 a2 .byte [(nar .byte (c0.toInt8.toInt32)), (0 : Int32)] := V1
  refine Y.iinc X1 hx (hb hby d7_32) rfl (l' := #[.val (.ref a1), .val (.int (1 : Int32)), .val (.ref a2), .val (.int (0 : Int32)), .val (.int (2 : Int32)), .val (.int (0 : Int32)), .val (.int c0)]) rfl ?_
  refine Y.iinc X1 hx (hb hby d7_35) rfl (l' := #[.val (.ref a1), .val (.int (1 : Int32)), .val (.ref a2), .val (.int (1 : Int32)), .val (.int (2 : Int32)), .val (.int (0 : Int32)), .val (.int c0)]) rfl ?_
  refine Y.iinc X1 hx (hb hby d7_38) rfl (l' := #[.val (.ref a1), .val (.int (1 : Int32)), .val (.ref a2), .val (.int (1 : Int32)), .val (.int (2 : Int32)), .val (.int (1 : Int32)), .val (.int c0)]) rfl ?_
  refine Y.goto X1 hx (pc0 := 41) (pc' := 3) rfl (hb hby d7_41) (by decide) (by decide) ?_
  refine Y.iload X1 hx (hb hby d7_3) rfl ?_
  refine Y.iload X1 hx (hb hby d7_5) rfl ?_
  refine Y.icmpNo X1 hx (hb hby d7_7) rfl (tlt (show (1 : Int32) < (2 : Int32) from (by decide))).2.1 ?_
  refine Y.aloadN X1 hx (hb hby d7_10) rfl rfl ?_
  refine Y.iloadN X1 hx (hb hby d7_11) rfl ?_
  refine Gl.pre (fun _ k => own_ldC X1 hx hZ e1 V_a1 (j := (1 : Int32)) (i := 1) (by decide) (by decide) (Nat.lt_of_lt_of_eq (by decide : 1 < 2) rfl) (v := c1) rfl (g := (mkF m 12 #[.val (.ref a1), .val (.int (1 : Int32)), .val (.ref a2), .val (.int (1 : Int32)), .val (.int (2 : Int32)), .val (.int (1 : Int32)), .val (.int c0)] [(.int (1 : Int32)), (.ref a1)])) rfl rfl (hb hby d7_12) _ k) ?_
  refine Y.istore X1 hx (hb hby d7_13) rfl (l' := #[.val (.ref a1), .val (.int (1 : Int32)), .val (.ref a2), .val (.int (1 : Int32)), .val (.int (2 : Int32)), .val (.int (1 : Int32)), .val (.int c1)]) rfl ?_
  refine Y.iload X1 hx (hb hby d7_15) rfl ?_
  refine Y.sipush X1 hx (hb hby d7_17) ?_
  refine Y.icmpYes X1 hx (pc0 := 20) (pc' := 26) rfl (hb hby d7_20) rfl (flt (show ¬ ((255 : Int32) < c1) from hc1)).2.2.2 (by decide) (by decide) ?_
  refine Y.aloadN X1 hx (hb hby d7_26) rfl rfl ?_
  refine Y.iloadN X1 hx (hb hby d7_27) rfl ?_
  refine Y.iload X1 hx (hb hby d7_28) rfl ?_
  refine Y.i2b X1 hx (hb hby d7_30) rfl ?_
  obtain ⟨T2, h2, X2, e2, W2, V2, st2⟩ := own_stB X1 hx hZ e1 V_a2 (j := (1 : Int32)) (i := 1) (by decide) (by decide) (Nat.lt_of_lt_of_eq (by decide : 1 < 2) rfl) (g := (mkF m 31 #[.val (.ref a1), .val (.int (1 : Int32)), .val (.ref a2), .val (.int (1 : Int32)), .val (.int (2 : Int32)), .val (.int (1 : Int32)), .val (.int c1)] [(.int (c1.toInt8.toInt32)), (.int (1 : Int32)), (.ref a2)])) rfl rfl (hb hby d7_31)
  refine Gl.pre (fun _ k => st2 _ k) ?_
  have V_a1 := V_a1.other W2 (own_ne_a1_a2)
  have Z2 : n0 ≤ h2.size := by rw [W2.size]; exact Z1
  have N2 := Fr.snoc X2 N1 g_a2
  have K2 := K1.wr W2 (Or.inl (List.mem_of_getElem? (i := 0) rfl))
  have V_a2 : Bal Z h2 a2 .byte [(nar .byte (c0.toInt8.toInt32)), (nar .byte (c1.toInt8.toInt32))] := V2
  refine Y.iinc X2 hx (hb hby d7_32) rfl (l' := #[.val (.ref a1), .val (.int (2 : Int32)), .val (.ref a2), .val (.int (1 : Int32)), .val (.int (2 : Int32)), .val (.int (1 : Int32)), .val (.int c1)]) rfl ?_
  refine Y.iinc X2 hx (hb hby d7_35) rfl (l' := #[.val (.ref a1), .val (.int (2 : Int32)), .val (.ref a2), .val (.int (2 : Int32)), .val (.int (2 : Int32)), .val (.int (1 : Int32)), .val (.int c1)]) rfl ?_
  refine Y.iinc X2 hx (hb hby d7_38) rfl (l' := #[.val (.ref a1), .val (.int (2 : Int32)), .val (.ref a2), .val (.int (2 : Int32)), .val (.int (2 : Int32)), .val (.int (2 : Int32)), .val (.int c1)]) rfl ?_
  refine Y.goto X2 hx (pc0 := 41) (pc' := 3) rfl (hb hby d7_41) (by decide) (by decide) ?_
  refine Y.iload X2 hx (hb hby d7_3) rfl ?_
  refine Y.iload X2 hx (hb hby d7_5) rfl ?_
  refine Y.icmpYes X2 hx (pc0 := 7) (pc' := 44) rfl (hb hby d7_7) rfl (flt (show ¬ ((2 : Int32) < (2 : Int32)) from (by decide))).2.1 (by decide) (by decide) ?_
  refine Y.iload X2 hx (hb hby d7_44) rfl ?_
  rw [hPP]
  refine own_finI (Q := (Qcz2_2 Z a1 a2 c0 c1 h0 n0)) X2 hx hlk Bd.returns (hb hby d7_46) ?_ (by decide) (by decide)
  show Qcz2_2 Z a1 a2 c0 c1 h0 n0 _ T2.heap _
  rw [e2]
  exact ⟨rfl, N2, K2, V_a2⟩
theorem ef_cz2_0 (m : MethodId) (a1 : Addr) (a2 : Addr) (c0 : Int32) (c1 : Int32) : entryFrame m #[(.ref a1), (.int (0 : Int32)), (.ref a2), (.int (0 : Int32)), (.int (2 : Int32))] 7 = mkF m 0 #[.val (.ref a1), .val (.int (0 : Int32)), .val (.ref a2), .val (.int (0 : Int32)), .val (.int (2 : Int32)), .unset, .unset] [] := by first | (simp [entryFrame, mkF, argsToLocals, Value.category]; done) | rfl
def Qcz2_0 (Z : State) (a1 : Addr) (a2 : Addr) (c0 : Int32) (c1 : Int32) (h0 : Heap) (n0 : Nat) (v : Option Value) (h : Heap) (L : List Loc) : Prop := v = some (.int (0 : Int32)) ∧ Fr n0 L ∧ Keep h0 h [a2]
set_option maxRecDepth 65536 in
set_option maxHeartbeats 40000000 in
theorem rmcz2_0 (l : Launch) (Z : State) (a0 : Array Value) (hw : ∀ d ∈ tables_1, d.before a0 Z = true) (ws : List Jvm.Cond) (a1 : Addr) (a2 : Addr) (c0 : Int32) (c1 : Int32) (h0 : Heap) (n0 : Nat) (Z0 : n0 ≤ h0.size) (V_a1 : Bal Z h0 a1 .char [c0, c1]) (V_a2 : Bal Z h0 a2 .byte [(0 : Int32), (0 : Int32)]) (g_a2 : n0 ≤ a2) (own_ne_a1_a2 : a1 ≠ a2) (own_ne_a2_a1 : a2 ≠ a1) (hc0 : (255 : Int32) < c0) :
    MetFree l (⟨"java/lang/StringUTF16", "compress", "([CI[BII)I"⟩ : MethodName) (head1 (Jvm.Cond.code (⟨"java/lang/StringUTF16", "compress", "([CI[BII)I"⟩ : MethodName) jdk_52_method_21_code 7 (some .int) :: ws) ({ frames := 0, cells := 0, slots := 0, locals := 0 } : Room)) (fun a U => a = #[(.ref a1), (.int (0 : Int32)), (.ref a2), (.int (0 : Int32)), (.int (2 : Int32))] ∧ Z.Warmed39 U.vm ∧ U.heap = h0) (fun _ _ _ _ _ => True) (fun _ U o U' => ∃ v L, o = .returned v ∧ Qcz2_0 Z a1 a2 c0 c1 h0 n0 v U'.heap L ∧ FrameEnd U o U' L ({ frames := 0, cells := 0, slots := 0, locals := 0 } : Room).cells ({ frames := 0, cells := 0, slots := 0, locals := 0 } : Room).slots) := by
  have W := @own_wd Z a0 hw
  refine MetFree.of_bodySF (plainFor_of_name pn_7) hisR ?_
  intro p e s m args below meth c s₁ Bd hml0 hP hK
  obtain ⟨rfl, hZ, hh⟩ := hP
  have hx := Bd.exec
  have hby := Bd.bytes
  have hlk : meth.locks = false := BodyLoose.notSynchronized Bd
  have hml : c.maxLocals = 7 := hml0
  have hown : s.vm.findClass "java/lang/StringUTF16" = some m.cls := findClass_of_methodNamed Bd.named
  have hnm := (name_of_methodNamed Bd.named Bd.method).1
  have X0 : Stand p l e ({ frames := 0, cells := 0, slots := 0, locals := 0 } : Room) s m #[(.ref a1), (.int (0 : Int32)), (.ref a2), (.int (0 : Int32)), (.int (2 : Int32))] below meth c s₁ [] 0 0 := Stand.of_body Bd
  have e0 : s₁.heap = h0 := by rw [← hh, Bd.state]; rfl
  have N0 := Fr.nil n0
  show Gl p.tables e below _ _
  refine Gl.pre (fun t k => castTop (ef_cz2_0 m a1 a2 c0 c1) k) ?_
  refine Gl.gen (fun PP hPP => ?_)
  have K0 : Keep h0 h0 [a2] := Keep.refl h0 _
  show Gl p.tables e below PP (s₁.setTop (mkF m 0 #[.val (.ref a1), .val (.int (0 : Int32)), .val (.ref a2), .val (.int (0 : Int32)), .val (.int (2 : Int32)), .unset, .unset] []))
  refine Y.iconst X0 hx (hb hby d7_0) ?_
  refine Y.istore X0 hx (hb hby d7_1) rfl (l' := #[.val (.ref a1), .val (.int (0 : Int32)), .val (.ref a2), .val (.int (0 : Int32)), .val (.int (2 : Int32)), .val (.int (0 : Int32)), .unset]) rfl ?_
  refine Y.iload X0 hx (hb hby d7_3) rfl ?_
  refine Y.iload X0 hx (hb hby d7_5) rfl ?_
  refine Y.icmpNo X0 hx (hb hby d7_7) rfl (tlt (show (0 : Int32) < (2 : Int32) from (by decide))).2.1 ?_
  refine Y.aloadN X0 hx (hb hby d7_10) rfl rfl ?_
  refine Y.iloadN X0 hx (hb hby d7_11) rfl ?_
  refine Gl.pre (fun _ k => own_ldC X0 hx hZ e0 V_a1 (j := (0 : Int32)) (i := 0) (by decide) (by decide) (Nat.lt_of_lt_of_eq (by decide : 0 < 2) rfl) (v := c0) rfl (g := (mkF m 12 #[.val (.ref a1), .val (.int (0 : Int32)), .val (.ref a2), .val (.int (0 : Int32)), .val (.int (2 : Int32)), .val (.int (0 : Int32)), .unset] [(.int (0 : Int32)), (.ref a1)])) rfl rfl (hb hby d7_12) _ k) ?_
  refine Y.istore X0 hx (hb hby d7_13) rfl (l' := #[.val (.ref a1), .val (.int (0 : Int32)), .val (.ref a2), .val (.int (0 : Int32)), .val (.int (2 : Int32)), .val (.int (0 : Int32)), .val (.int c0)]) rfl ?_
  refine Y.iload X0 hx (hb hby d7_15) rfl ?_
  refine Y.sipush X0 hx (hb hby d7_17) ?_
  refine Y.icmpNo X0 hx (hb hby d7_20) rfl (tlt (show (255 : Int32) < c0 from hc0)).2.2.2 ?_
  refine Y.iload X0 hx (hb hby d7_23) rfl ?_
  rw [hPP]
  refine own_finI (Q := (Qcz2_0 Z a1 a2 c0 c1 h0 n0)) X0 hx hlk Bd.returns (hb hby d7_25) ?_ (by decide) (by decide)
  show Qcz2_0 Z a1 a2 c0 c1 h0 n0 _ s₁.heap _
  rw [e0]
  exact ⟨rfl, N0, K0⟩
theorem ef_cz2_1 (m : MethodId) (a1 : Addr) (a2 : Addr) (c0 : Int32) (c1 : Int32) : entryFrame m #[(.ref a1), (.int (0 : Int32)), (.ref a2), (.int (0 : Int32)), (.int (2 : Int32))] 7 = mkF m 0 #[.val (.ref a1), .val (.int (0 : Int32)), .val (.ref a2), .val (.int (0 : Int32)), .val (.int (2 : Int32)), .unset, .unset] [] := by first | (simp [entryFrame, mkF, argsToLocals, Value.category]; done) | rfl
def Qcz2_1 (Z : State) (a1 : Addr) (a2 : Addr) (c0 : Int32) (c1 : Int32) (h0 : Heap) (n0 : Nat) (v : Option Value) (h : Heap) (L : List Loc) : Prop := v = some (.int (1 : Int32)) ∧ Fr n0 L ∧ Keep h0 h [a2]
set_option maxRecDepth 65536 in
set_option maxHeartbeats 40000000 in
theorem rmcz2_1 (l : Launch) (Z : State) (a0 : Array Value) (hw : ∀ d ∈ tables_1, d.before a0 Z = true) (ws : List Jvm.Cond) (a1 : Addr) (a2 : Addr) (c0 : Int32) (c1 : Int32) (h0 : Heap) (n0 : Nat) (Z0 : n0 ≤ h0.size) (V_a1 : Bal Z h0 a1 .char [c0, c1]) (V_a2 : Bal Z h0 a2 .byte [(0 : Int32), (0 : Int32)]) (g_a2 : n0 ≤ a2) (own_ne_a1_a2 : a1 ≠ a2) (own_ne_a2_a1 : a2 ≠ a1) (hc0 : ¬ ((255 : Int32) < c0)) (hc1 : (255 : Int32) < c1) :
    MetFree l (⟨"java/lang/StringUTF16", "compress", "([CI[BII)I"⟩ : MethodName) (head1 (Jvm.Cond.code (⟨"java/lang/StringUTF16", "compress", "([CI[BII)I"⟩ : MethodName) jdk_52_method_21_code 7 (some .int) :: ws) ({ frames := 0, cells := 0, slots := 0, locals := 0 } : Room)) (fun a U => a = #[(.ref a1), (.int (0 : Int32)), (.ref a2), (.int (0 : Int32)), (.int (2 : Int32))] ∧ Z.Warmed39 U.vm ∧ U.heap = h0) (fun _ _ _ _ _ => True) (fun _ U o U' => ∃ v L, o = .returned v ∧ Qcz2_1 Z a1 a2 c0 c1 h0 n0 v U'.heap L ∧ FrameEnd U o U' L ({ frames := 0, cells := 0, slots := 0, locals := 0 } : Room).cells ({ frames := 0, cells := 0, slots := 0, locals := 0 } : Room).slots) := by
  have W := @own_wd Z a0 hw
  refine MetFree.of_bodySF (plainFor_of_name pn_7) hisR ?_
  intro p e s m args below meth c s₁ Bd hml0 hP hK
  obtain ⟨rfl, hZ, hh⟩ := hP
  have hx := Bd.exec
  have hby := Bd.bytes
  have hlk : meth.locks = false := BodyLoose.notSynchronized Bd
  have hml : c.maxLocals = 7 := hml0
  have hown : s.vm.findClass "java/lang/StringUTF16" = some m.cls := findClass_of_methodNamed Bd.named
  have hnm := (name_of_methodNamed Bd.named Bd.method).1
  have X0 : Stand p l e ({ frames := 0, cells := 0, slots := 0, locals := 0 } : Room) s m #[(.ref a1), (.int (0 : Int32)), (.ref a2), (.int (0 : Int32)), (.int (2 : Int32))] below meth c s₁ [] 0 0 := Stand.of_body Bd
  have e0 : s₁.heap = h0 := by rw [← hh, Bd.state]; rfl
  have N0 := Fr.nil n0
  show Gl p.tables e below _ _
  refine Gl.pre (fun t k => castTop (ef_cz2_1 m a1 a2 c0 c1) k) ?_
  refine Gl.gen (fun PP hPP => ?_)
  have K0 : Keep h0 h0 [a2] := Keep.refl h0 _
  show Gl p.tables e below PP (s₁.setTop (mkF m 0 #[.val (.ref a1), .val (.int (0 : Int32)), .val (.ref a2), .val (.int (0 : Int32)), .val (.int (2 : Int32)), .unset, .unset] []))
  refine Y.iconst X0 hx (hb hby d7_0) ?_
  refine Y.istore X0 hx (hb hby d7_1) rfl (l' := #[.val (.ref a1), .val (.int (0 : Int32)), .val (.ref a2), .val (.int (0 : Int32)), .val (.int (2 : Int32)), .val (.int (0 : Int32)), .unset]) rfl ?_
  refine Y.iload X0 hx (hb hby d7_3) rfl ?_
  refine Y.iload X0 hx (hb hby d7_5) rfl ?_
  refine Y.icmpNo X0 hx (hb hby d7_7) rfl (tlt (show (0 : Int32) < (2 : Int32) from (by decide))).2.1 ?_
  refine Y.aloadN X0 hx (hb hby d7_10) rfl rfl ?_
  refine Y.iloadN X0 hx (hb hby d7_11) rfl ?_
  refine Gl.pre (fun _ k => own_ldC X0 hx hZ e0 V_a1 (j := (0 : Int32)) (i := 0) (by decide) (by decide) (Nat.lt_of_lt_of_eq (by decide : 0 < 2) rfl) (v := c0) rfl (g := (mkF m 12 #[.val (.ref a1), .val (.int (0 : Int32)), .val (.ref a2), .val (.int (0 : Int32)), .val (.int (2 : Int32)), .val (.int (0 : Int32)), .unset] [(.int (0 : Int32)), (.ref a1)])) rfl rfl (hb hby d7_12) _ k) ?_
  refine Y.istore X0 hx (hb hby d7_13) rfl (l' := #[.val (.ref a1), .val (.int (0 : Int32)), .val (.ref a2), .val (.int (0 : Int32)), .val (.int (2 : Int32)), .val (.int (0 : Int32)), .val (.int c0)]) rfl ?_
  refine Y.iload X0 hx (hb hby d7_15) rfl ?_
  refine Y.sipush X0 hx (hb hby d7_17) ?_
  refine Y.icmpYes X0 hx (pc0 := 20) (pc' := 26) rfl (hb hby d7_20) rfl (flt (show ¬ ((255 : Int32) < c0) from hc0)).2.2.2 (by decide) (by decide) ?_
  refine Y.aloadN X0 hx (hb hby d7_26) rfl rfl ?_
  refine Y.iloadN X0 hx (hb hby d7_27) rfl ?_
  refine Y.iload X0 hx (hb hby d7_28) rfl ?_
  refine Y.i2b X0 hx (hb hby d7_30) rfl ?_
  obtain ⟨T1, h1, X1, e1, W1, V1, st1⟩ := own_stB X0 hx hZ e0 V_a2 (j := (0 : Int32)) (i := 0) (by decide) (by decide) (Nat.lt_of_lt_of_eq (by decide : 0 < 2) rfl) (g := (mkF m 31 #[.val (.ref a1), .val (.int (0 : Int32)), .val (.ref a2), .val (.int (0 : Int32)), .val (.int (2 : Int32)), .val (.int (0 : Int32)), .val (.int c0)] [(.int (c0.toInt8.toInt32)), (.int (0 : Int32)), (.ref a2)])) rfl rfl (hb hby d7_31)
  refine Gl.pre (fun _ k => st1 _ k) ?_
  have V_a1 := V_a1.other W1 (own_ne_a1_a2)
  have Z1 : n0 ≤ h1.size := by rw [W1.size]; exact Z0
  have N1 := Fr.snoc X1 N0 g_a2
  have K1 := K0.wr W1 (Or.inl (List.mem_of_getElem? (i := 0) rfl))
  have V_a2 : Bal Z h1 a2 .byte [(nar .byte (c0.toInt8.toInt32)), (0 : Int32)] := V1
  refine Y.iinc X1 hx (hb hby d7_32) rfl (l' := #[.val (.ref a1), .val (.int (1 : Int32)), .val (.ref a2), .val (.int (0 : Int32)), .val (.int (2 : Int32)), .val (.int (0 : Int32)), .val (.int c0)]) rfl ?_
  refine Y.iinc X1 hx (hb hby d7_35) rfl (l' := #[.val (.ref a1), .val (.int (1 : Int32)), .val (.ref a2), .val (.int (1 : Int32)), .val (.int (2 : Int32)), .val (.int (0 : Int32)), .val (.int c0)]) rfl ?_
  refine Y.iinc X1 hx (hb hby d7_38) rfl (l' := #[.val (.ref a1), .val (.int (1 : Int32)), .val (.ref a2), .val (.int (1 : Int32)), .val (.int (2 : Int32)), .val (.int (1 : Int32)), .val (.int c0)]) rfl ?_
  refine Y.goto X1 hx (pc0 := 41) (pc' := 3) rfl (hb hby d7_41) (by decide) (by decide) ?_
  refine Y.iload X1 hx (hb hby d7_3) rfl ?_
  refine Y.iload X1 hx (hb hby d7_5) rfl ?_
  refine Y.icmpNo X1 hx (hb hby d7_7) rfl (tlt (show (1 : Int32) < (2 : Int32) from (by decide))).2.1 ?_
  refine Y.aloadN X1 hx (hb hby d7_10) rfl rfl ?_
  refine Y.iloadN X1 hx (hb hby d7_11) rfl ?_
  refine Gl.pre (fun _ k => own_ldC X1 hx hZ e1 V_a1 (j := (1 : Int32)) (i := 1) (by decide) (by decide) (Nat.lt_of_lt_of_eq (by decide : 1 < 2) rfl) (v := c1) rfl (g := (mkF m 12 #[.val (.ref a1), .val (.int (1 : Int32)), .val (.ref a2), .val (.int (1 : Int32)), .val (.int (2 : Int32)), .val (.int (1 : Int32)), .val (.int c0)] [(.int (1 : Int32)), (.ref a1)])) rfl rfl (hb hby d7_12) _ k) ?_
  refine Y.istore X1 hx (hb hby d7_13) rfl (l' := #[.val (.ref a1), .val (.int (1 : Int32)), .val (.ref a2), .val (.int (1 : Int32)), .val (.int (2 : Int32)), .val (.int (1 : Int32)), .val (.int c1)]) rfl ?_
  refine Y.iload X1 hx (hb hby d7_15) rfl ?_
  refine Y.sipush X1 hx (hb hby d7_17) ?_
  refine Y.icmpNo X1 hx (hb hby d7_20) rfl (tlt (show (255 : Int32) < c1 from hc1)).2.2.2 ?_
  refine Y.iload X1 hx (hb hby d7_23) rfl ?_
  rw [hPP]
  refine own_finI (Q := (Qcz2_1 Z a1 a2 c0 c1 h0 n0)) X1 hx hlk Bd.returns (hb hby d7_25) ?_ (by decide) (by decide)
  show Qcz2_1 Z a1 a2 c0 c1 h0 n0 _ T1.heap _
  rw [e1]
  exact ⟨rfl, N1, K1⟩
theorem ef_nl2 (m : MethodId)  : entryFrame m #[(.int (2 : Int32))] 1 = mkF m 0 #[.val (.int (2 : Int32))] [] := by first | (simp [entryFrame, mkF, argsToLocals, Value.category]; done) | rfl
def Qnl2 (Z : State)  (h0 : Heap) (n0 : Nat) (v : Option Value) (h : Heap) (L : List Loc) : Prop := v = some (.int (4 : Int32)) ∧ Fr n0 L ∧ h = h0
set_option maxRecDepth 65536 in
set_option maxHeartbeats 40000000 in
theorem rmnl2 (l : Launch) (Z : State) (a0 : Array Value) (hw : ∀ d ∈ tables_1, d.before a0 Z = true) (ws : List Jvm.Cond)  (h0 : Heap) (n0 : Nat) (Z0 : n0 ≤ h0.size)  :
    MetFree l (⟨"java/lang/StringUTF16", "newBytesLength", "(I)I"⟩ : MethodName) (head1 (Jvm.Cond.code (⟨"java/lang/StringUTF16", "newBytesLength", "(I)I"⟩ : MethodName) jdk_52_method_3_code 1 (some .int) :: ws) ({ frames := 0, cells := 0, slots := 0, locals := 0 } : Room)) (fun a U => a = #[(.int (2 : Int32))] ∧ Z.Warmed39 U.vm ∧ U.heap = h0) (fun _ _ _ _ _ => True) (fun _ U o U' => ∃ v L, o = .returned v ∧ Qnl2 Z  h0 n0 v U'.heap L ∧ FrameEnd U o U' L ({ frames := 0, cells := 0, slots := 0, locals := 0 } : Room).cells ({ frames := 0, cells := 0, slots := 0, locals := 0 } : Room).slots) := by
  have W := @own_wd Z a0 hw
  refine MetFree.of_bodySF (plainFor_of_name pn_21) hisR ?_
  intro p e s m args below meth c s₁ Bd hml0 hP hK
  obtain ⟨rfl, hZ, hh⟩ := hP
  have hx := Bd.exec
  have hby := Bd.bytes
  have hlk : meth.locks = false := BodyLoose.notSynchronized Bd
  have hml : c.maxLocals = 1 := hml0
  have hown : s.vm.findClass "java/lang/StringUTF16" = some m.cls := findClass_of_methodNamed Bd.named
  have hnm := (name_of_methodNamed Bd.named Bd.method).1
  have X0 : Stand p l e ({ frames := 0, cells := 0, slots := 0, locals := 0 } : Room) s m #[(.int (2 : Int32))] below meth c s₁ [] 0 0 := Stand.of_body Bd
  have e0 : s₁.heap = h0 := by rw [← hh, Bd.state]; rfl
  have N0 := Fr.nil n0
  show Gl p.tables e below _ _
  refine Gl.pre (fun t k => castTop (ef_nl2 m ) k) ?_
  refine Gl.gen (fun PP hPP => ?_)
  show Gl p.tables e below PP (s₁.setTop (mkF m 0 #[.val (.int (2 : Int32))] []))
  refine Y.iloadN X0 hx (hb hby d21_0) rfl ?_
  refine Y.ifYes X0 hx (pc0 := 1) (pc' := 12) rfl (hb hby d21_1) rfl ((if0 _ _).trans (flt (show ¬ ((2 : Int32) < (0 : Int32)) from (by decide))).2.1) (by decide) (by decide) ?_
  refine Y.iloadN X0 hx (hb hby d21_12) rfl ?_
  refine Gl.pre (fun _ k => X0.ldcInt hx hown (mvT hZ (W 104 rfl)) (g := (mkF m 13 #[.val (.int (2 : Int32))] [(.int (2 : Int32))])) rfl (hb hby d21_13) _ k) ?_
  refine Y.icmpYes X0 hx (pc0 := 15) (pc' := 55) rfl (hb hby d21_15) rfl (tlt (show (2 : Int32) < (1073741823 : Int32) from (by decide))).1 (by decide) (by decide) ?_
  refine Y.iloadN X0 hx (hb hby d21_55) rfl ?_
  refine Y.iconst X0 hx (hb hby d21_56) ?_
  refine Y.ishl X0 hx (hb hby d21_57) rfl ?_
  show Gl p.tables e below PP (s₁.setTop (mkF m 58 #[.val (.int (2 : Int32))] [(.int ((2 : Int32) <<< ((1 : Int32) &&& 31)))]))
  rw [show ((2 : Int32) <<< ((1 : Int32) &&& 31)) = (4 : Int32) by decide]
  show Gl p.tables e below PP (s₁.setTop (mkF m 58 #[.val (.int (2 : Int32))] [(.int (4 : Int32))]))
  rw [hPP]
  refine own_finI (Q := (Qnl2 Z  h0 n0)) X0 hx hlk Bd.returns (hb hby d21_58) ?_ (by decide) (by decide)
  show Qnl2 Z  h0 n0 _ s₁.heap _
  rw [e0]
  exact ⟨rfl, N0, rfl⟩
theorem ef_nf2 (m : MethodId)  : entryFrame m #[(.int (2 : Int32))] 1 = mkF m 0 #[.val (.int (2 : Int32))] [] := by first | (simp [entryFrame, mkF, argsToLocals, Value.category]; done) | rfl
def Qnf2 (Z : State)  (h0 : Heap) (n0 : Nat) (v : Option Value) (h : Heap) (L : List Loc) : Prop := ∃ b : Addr, v = some (.ref b) ∧ Fr n0 L ∧ h0.size ≤ b ∧ Keep h0 h [] ∧ Bal Z h b .byte [(0 : Int32), (0 : Int32), (0 : Int32), (0 : Int32)] ∧ Exa Z h b "[B"
set_option maxRecDepth 65536 in
set_option maxHeartbeats 40000000 in
theorem rmnf2 (l : Launch) (Z : State) (a0 : Array Value) (hw : ∀ d ∈ tables_1, d.before a0 Z = true) (ws : List Jvm.Cond)  (h0 : Heap) (n0 : Nat) (Z0 : n0 ≤ h0.size)  :
    MetFree l (⟨"java/lang/StringUTF16", "newBytesFor", "(I)[B"⟩ : MethodName) (head1 (Jvm.Cond.code (⟨"java/lang/StringUTF16", "newBytesFor", "(I)[B"⟩ : MethodName) jdk_52_method_2_code 1 (some (.array .byte)) :: ws) ({ frames := 1, cells := 1, slots := 4, locals := 12 } : Room)) (fun a U => a = #[(.int (2 : Int32))] ∧ Z.Warmed39 U.vm ∧ U.heap = h0) (fun _ _ _ _ _ => True) (fun _ U o U' => ∃ v L, o = .returned v ∧ Qnf2 Z  h0 n0 v U'.heap L ∧ FrameEnd U o U' L ({ frames := 1, cells := 1, slots := 4, locals := 12 } : Room).cells ({ frames := 1, cells := 1, slots := 4, locals := 12 } : Room).slots) := by
  have W := @own_wd Z a0 hw
  refine MetFree.of_bodySF (plainFor_of_name pn_20) hisR ?_
  intro p e s m args below meth c s₁ Bd hml0 hP hK
  obtain ⟨rfl, hZ, hh⟩ := hP
  have hx := Bd.exec
  have hby := Bd.bytes
  have hlk : meth.locks = false := BodyLoose.notSynchronized Bd
  have hml : c.maxLocals = 1 := hml0
  have hown : s.vm.findClass "java/lang/StringUTF16" = some m.cls := findClass_of_methodNamed Bd.named
  have hnm := (name_of_methodNamed Bd.named Bd.method).1
  have X0 : Stand p l e ({ frames := 1, cells := 1, slots := 4, locals := 12 } : Room) s m #[(.int (2 : Int32))] below meth c s₁ [] 0 0 := Stand.of_body Bd
  have e0 : s₁.heap = h0 := by rw [← hh, Bd.state]; rfl
  have N0 := Fr.nil n0
  show Gl p.tables e below _ _
  refine Gl.pre (fun t k => castTop (ef_nf2 m ) k) ?_
  refine Gl.gen (fun PP hPP => ?_)
  have K0 : Keep h0 h0 [] := Keep.refl h0 _
  show Gl p.tables e below PP (s₁.setTop (mkF m 0 #[.val (.int (2 : Int32))] []))
  refine Y.iloadN X0 hx (hb hby d20_0) rfl ?_
  obtain ⟨_, _, ⟨T1, L1, k1, n1⟩, -, X1, ⟨Lc1, hQ1, l1, y1, z1⟩, st1⟩ := Jvm.LawKit.callS X0 hx (y := (⟨"java/lang/StringUTF16", "newBytesLength", "(I)I"⟩ : MethodName)) hown (mvT hZ (W 101 rfl)) (mvT hZ (W 102 rfl)) (mvT hZ (W 26 rfl)) (mvT hZ (W 103 rfl)) (by decide) (backOf (W := 0) (rmnl2 l Z a0 hw []  h0 n0 Z0 ) hZ (W 103 rfl) (W 26 rfl) (by decide) (by decide)) (g := (mkF m 1 #[.val (.int (2 : Int32))] [(.int (2 : Int32))])) rfl (by rw [hml]; rfl) (argsL := [(.int (2 : Int32))]) (rest := []) (lenOf pd_0 rfl) rfl (by show 2 * 0 + _ ≤ _; exact Nat.le_of_eq rfl) (hb hby d20_1) (fun _ _ => ⟨rfl, e0, (by decide : 0 + 0 ≤ _), (by decide : 0 + 0 ≤ _)⟩)
  dsimp only [Pt.U, Pt.locs, Pt.cells, Pt.slots] at X1 l1 y1 z1 st1 hQ1
  subst l1 y1 z1
  obtain ⟨rfl, N1q, e1⟩ := hQ1
  have N1 := Fr.app N0 N1q
  refine Gl.pre (fun _ k => st1 _ k) ?_
  obtain ⟨T2, h2, k2, X2, e2, E2, A2, B2, st2⟩ := newPE X1 hx hZ (W 28 rfl) e1 (g := (mkF m 4 #[.val (.int (2 : Int32))] [(.int (4 : Int32))])) rfl (hb hby d20_4) rfl (by decide) (cap := 4) (by decide) (by decide) (by decide) (by decide) (ad := "[B") (by first | rfl | decide | decide +kernel)
  obtain ⟨b2, g2⟩ : ∃ z, z = h0.size := ⟨_, rfl⟩
  rw [← g2] at A2 B2 st2
  refine Gl.pre (fun _ k => st2 _ k) ?_
  have g_b2 : n0 ≤ b2 := Nat.le_trans Z0 (Nat.le_of_eq g2.symm)
  have sz_b2 : h0.size ≤ b2 := Nat.le_trans K0.1 (Nat.le_of_eq g2.symm)
  have Z2 : n0 ≤ h2.size := Nat.le_trans Z0 E2.1
  have K2 := K0.ext E2
  have V_b2 : Bal Z h2 b2 .byte [(0 : Int32), (0 : Int32), (0 : Int32), (0 : Int32)] := Bal.new (ty := .byte) A2 (n := 4) (by decide) rfl
  have E_b2 := B2
  rw [hPP]
  refine own_finA (Q := (Qnf2 Z  h0 n0)) X2 hx hlk Bd.returns rfl rfl (hb hby d20_6) ?_ (by decide) (by decide)
  show Qnf2 Z  h0 n0 _ T2.heap _
  rw [e2]
  exact ⟨b2, rfl, N1, sz_b2, K2, V_b2, E_b2⟩
theorem ef_pu1 (m : MethodId) (a1 : Addr) (pv : Int32) (xs : List Int32) : entryFrame m #[(.ref a1), (.int (1 : Int32)), (.int pv)] 3 = mkF m 0 #[.val (.ref a1), .val (.int (1 : Int32)), .val (.int pv)] [] := by first | (simp [entryFrame, mkF, argsToLocals, Value.category]; done) | rfl
def Qpu1 (Z : State) (a1 : Addr) (pv : Int32) (xs : List Int32) (h0 : Heap) (n0 : Nat) (v : Option Value) (h : Heap) (L : List Loc) : Prop := v = none ∧ Fr n0 L ∧ Keep h0 h [a1] ∧ Bal Z h a1 .byte ((xs.set 2 (nar .byte ((pv >>> ((0 : Int32) &&& 31)).toInt8.toInt32))).set 3 (nar .byte ((pv >>> ((8 : Int32) &&& 31)).toInt8.toInt32)))
set_option maxRecDepth 65536 in
set_option maxHeartbeats 40000000 in
theorem rmpu1 (l : Launch) (Z : State) (a0 : Array Value) (hw : ∀ d ∈ tables_1, d.before a0 Z = true) (ws : List Jvm.Cond) (a1 : Addr) (pv : Int32) (xs : List Int32) (h0 : Heap) (n0 : Nat) (Z0 : n0 ≤ h0.size) (V_a1 : Bal Z h0 a1 .byte xs) (g_a1 : n0 ≤ a1) (hlt : 3 < xs.length) (SAD : Sta Z Z.heap "java/lang/StringUTF16" "$assertionsDisabled" "Z" (.int (1 : Int32))) (SHI : Sta Z Z.heap "java/lang/StringUTF16" "HI_BYTE_SHIFT" "I" (.int (0 : Int32))) (SLO : Sta Z Z.heap "java/lang/StringUTF16" "LO_BYTE_SHIFT" "I" (.int (8 : Int32))) (O_ : Old Z n0 h0) :
    MetFree l (⟨"java/lang/StringUTF16", "putChar", "([BII)V"⟩ : MethodName) (head1 (Jvm.Cond.code (⟨"java/lang/StringUTF16", "putChar", "([BII)V"⟩ : MethodName) jdk_52_method_4_code 3 none :: ws) ({ frames := 0, cells := 0, slots := 0, locals := 0 } : Room)) (fun a U => a = #[(.ref a1), (.int (1 : Int32)), (.int pv)] ∧ Z.Warmed39 U.vm ∧ U.heap = h0) (fun _ _ _ _ _ => True) (fun _ U o U' => ∃ v L, o = .returned v ∧ Qpu1 Z a1 pv xs h0 n0 v U'.heap L ∧ FrameEnd U o U' L ({ frames := 0, cells := 0, slots := 0, locals := 0 } : Room).cells ({ frames := 0, cells := 0, slots := 0, locals := 0 } : Room).slots) := by
  have W := @own_wd Z a0 hw
  refine MetFree.of_bodySF (plainFor_of_name pn_23) hisR ?_
  intro p e s m args below meth c s₁ Bd hml0 hP hK
  obtain ⟨rfl, hZ, hh⟩ := hP
  have hx := Bd.exec
  have hby := Bd.bytes
  have hlk : meth.locks = false := BodyLoose.notSynchronized Bd
  have hml : c.maxLocals = 3 := hml0
  have hown : s.vm.findClass "java/lang/StringUTF16" = some m.cls := findClass_of_methodNamed Bd.named
  have hnm := (name_of_methodNamed Bd.named Bd.method).1
  have X0 : Stand p l e ({ frames := 0, cells := 0, slots := 0, locals := 0 } : Room) s m #[(.ref a1), (.int (1 : Int32)), (.int pv)] below meth c s₁ [] 0 0 := Stand.of_body Bd
  have e0 : s₁.heap = h0 := by rw [← hh, Bd.state]; rfl
  have N0 := Fr.nil n0
  show Gl p.tables e below _ _
  refine Gl.pre (fun t k => castTop (ef_pu1 m a1 pv xs) k) ?_
  refine Gl.gen (fun PP hPP => ?_)
  have K0 : Keep h0 h0 [a1] := Keep.refl h0 _
  show Gl p.tables e below PP (s₁.setTop (mkF m 0 #[.val (.ref a1), .val (.int (1 : Int32)), .val (.int pv)] []))
  obtain ⟨T1, X1, e1, st1⟩ := getS2 X0 hx hZ hown (host := "") (Or.inl (W 112 rfl)) Via.refl e0 (SAD.ext O_.2) (g := (mkF m 0 #[.val (.ref a1), .val (.int (1 : Int32)), .val (.int pv)] [])) rfl (hb hby d23_0)
  refine Gl.pre (fun _ k => st1 _ k) ?_
  refine Y.ifYes X1 hx (pc0 := 3) (pc' := 28) rfl (hb hby d23_3) rfl ((if0 _ _).trans (feq (show ¬ ((1 : Int32) = (0 : Int32)) from (by decide))).2) (by decide) (by decide) ?_
  refine Y.iloadN X1 hx (hb hby d23_28) rfl ?_
  refine Y.iconst X1 hx (hb hby d23_29) ?_
  refine Y.ishl X1 hx (hb hby d23_30) rfl ?_
  show Gl p.tables e below PP (T1.setTop (mkF m 31 #[.val (.ref a1), .val (.int (1 : Int32)), .val (.int pv)] [(.int ((1 : Int32) <<< ((1 : Int32) &&& 31)))]))
  rw [show ((1 : Int32) <<< ((1 : Int32) &&& 31)) = (2 : Int32) by decide]
  show Gl p.tables e below PP (T1.setTop (mkF m 31 #[.val (.ref a1), .val (.int (1 : Int32)), .val (.int pv)] [(.int (2 : Int32))]))
  refine Y.istoreN X1 hx (hb hby d23_31) rfl (l' := #[.val (.ref a1), .val (.int (2 : Int32)), .val (.int pv)]) rfl ?_
  refine Y.aloadN X1 hx (hb hby d23_32) rfl rfl ?_
  refine Y.iloadN X1 hx (hb hby d23_33) rfl ?_
  refine Y.iinc X1 hx (hb hby d23_34) rfl (l' := #[.val (.ref a1), .val (.int (3 : Int32)), .val (.int pv)]) rfl ?_
  refine Y.iloadN X1 hx (hb hby d23_37) rfl ?_
  obtain ⟨T2, X2, e2, st2⟩ := getS2 X1 hx hZ hown (host := "") (Or.inl (W 113 rfl)) Via.refl e1 (SHI.ext O_.2) (g := (mkF m 38 #[.val (.ref a1), .val (.int (3 : Int32)), .val (.int pv)] [(.int pv), (.int (2 : Int32)), (.ref a1)])) rfl (hb hby d23_38)
  refine Gl.pre (fun _ k => st2 _ k) ?_
  refine Y.ishr X2 hx (hb hby d23_41) rfl ?_
  refine Y.i2b X2 hx (hb hby d23_42) rfl ?_
  obtain ⟨T3, h3, X3, e3, W3, V3, st3⟩ := own_stB X2 hx hZ e2 V_a1 (j := (2 : Int32)) (i := 2) (by decide) (by decide) (Nat.lt_of_succ_lt hlt) (g := (mkF m 43 #[.val (.ref a1), .val (.int (3 : Int32)), .val (.int pv)] [(.int ((pv >>> ((0 : Int32) &&& 31)).toInt8.toInt32)), (.int (2 : Int32)), (.ref a1)])) rfl rfl (hb hby d23_43)
  refine Gl.pre (fun _ k => st3 _ k) ?_
  have O_ := O_.wr W3 g_a1
  have Z3 : n0 ≤ h3.size := by rw [W3.size]; exact Z0
  have N3 := Fr.snoc X3 N0 g_a1
  have K3 := K0.wr W3 (Or.inl (List.mem_of_getElem? (i := 0) rfl))
  have V_a1 := V3
  refine Y.aloadN X3 hx (hb hby d23_44) rfl rfl ?_
  refine Y.iloadN X3 hx (hb hby d23_45) rfl ?_
  refine Y.iloadN X3 hx (hb hby d23_46) rfl ?_
  obtain ⟨T4, X4, e4, st4⟩ := getS2 X3 hx hZ hown (host := "") (Or.inl (W 114 rfl)) Via.refl e3 (SLO.ext O_.2) (g := (mkF m 47 #[.val (.ref a1), .val (.int (3 : Int32)), .val (.int pv)] [(.int pv), (.int (3 : Int32)), (.ref a1)])) rfl (hb hby d23_47)
  refine Gl.pre (fun _ k => st4 _ k) ?_
  refine Y.ishr X4 hx (hb hby d23_50) rfl ?_
  refine Y.i2b X4 hx (hb hby d23_51) rfl ?_
  obtain ⟨T5, h5, X5, e5, W5, V5, st5⟩ := own_stB X4 hx hZ e4 V_a1 (j := (3 : Int32)) (i := 3) (by decide) (by decide) (by rw [List.length_set]; exact hlt) (g := (mkF m 52 #[.val (.ref a1), .val (.int (3 : Int32)), .val (.int pv)] [(.int ((pv >>> ((8 : Int32) &&& 31)).toInt8.toInt32)), (.int (3 : Int32)), (.ref a1)])) rfl rfl (hb hby d23_52)
  refine Gl.pre (fun _ k => st5 _ k) ?_
  have O_ := O_.wr W5 g_a1
  have Z5 : n0 ≤ h5.size := by rw [W5.size]; exact Z3
  have N5 := Fr.snoc X5 N3 g_a1
  have K5 := K3.wr W5 (Or.inl (List.mem_of_getElem? (i := 0) rfl))
  have V_a1 := V5
  rw [hPP]
  refine own_finV (Q := (Qpu1 Z a1 pv xs h0 n0)) X5 hx hlk Bd.returns (hb hby d23_53) ?_ (by decide) (by decide)
  show Qpu1 Z a1 pv xs h0 n0 _ T5.heap _
  rw [e5]
  exact ⟨rfl, N5, K5, V_a1⟩
theorem ef_tb2 (m : MethodId) (a1 : Addr) (c0 : Int32) (c1 : Int32) : entryFrame m #[(.ref a1), (.int (0 : Int32)), (.int (2 : Int32))] 5 = mkF m 0 #[.val (.ref a1), .val (.int (0 : Int32)), .val (.int (2 : Int32)), .unset, .unset] [] := by first | (simp [entryFrame, mkF, argsToLocals, Value.category]; done) | rfl
def Qtb2 (Z : State) (a1 : Addr) (c0 : Int32) (c1 : Int32) (h0 : Heap) (n0 : Nat) (v : Option Value) (h : Heap) (L : List Loc) : Prop := ∃ b : Addr, v = some (.ref b) ∧ Fr n0 L ∧ h0.size ≤ b ∧ Keep h0 h [] ∧ Bal Z h b .byte [(nar .byte ((c0 >>> ((0 : Int32) &&& 31)).toInt8.toInt32)), (nar .byte ((c0 >>> ((8 : Int32) &&& 31)).toInt8.toInt32)), (nar .byte ((c1 >>> ((0 : Int32) &&& 31)).toInt8.toInt32)), (nar .byte ((c1 >>> ((8 : Int32) &&& 31)).toInt8.toInt32))] ∧ Exa Z h b "[B"
set_option maxRecDepth 65536 in
set_option maxHeartbeats 40000000 in
theorem rmtb2 (l : Launch) (Z : State) (a0 : Array Value) (hw : ∀ d ∈ tables_1, d.before a0 Z = true) (ws : List Jvm.Cond) (a1 : Addr) (c0 : Int32) (c1 : Int32) (h0 : Heap) (n0 : Nat) (Z0 : n0 ≤ h0.size) (V_a1 : Bal Z h0 a1 .char [c0, c1]) (SAD : Sta Z Z.heap "java/lang/StringUTF16" "$assertionsDisabled" "Z" (.int (1 : Int32))) (SHI : Sta Z Z.heap "java/lang/StringUTF16" "HI_BYTE_SHIFT" "I" (.int (0 : Int32))) (SLO : Sta Z Z.heap "java/lang/StringUTF16" "LO_BYTE_SHIFT" "I" (.int (8 : Int32))) (O_ : Old Z n0 h0) :
    MetFree l (⟨"java/lang/StringUTF16", "toBytes", "([CII)[B"⟩ : MethodName) (head1 (Jvm.Cond.code (⟨"java/lang/StringUTF16", "toBytes", "([CII)[B"⟩ : MethodName) jdk_52_method_14_code 5 (some (.array .byte)) :: ws) ({ frames := 2, cells := 1, slots := 4, locals := 24 } : Room)) (fun a U => a = #[(.ref a1), (.int (0 : Int32)), (.int (2 : Int32))] ∧ Z.Warmed39 U.vm ∧ U.heap = h0) (fun _ _ _ _ _ => True) (fun _ U o U' => ∃ v L, o = .returned v ∧ Qtb2 Z a1 c0 c1 h0 n0 v U'.heap L ∧ FrameEnd U o U' L ({ frames := 2, cells := 1, slots := 4, locals := 24 } : Room).cells ({ frames := 2, cells := 1, slots := 4, locals := 24 } : Room).slots) := by
  have W := @own_wd Z a0 hw
  refine MetFree.of_bodySF (plainFor_of_name pn_22) hisR ?_
  intro p e s m args below meth c s₁ Bd hml0 hP hK
  obtain ⟨rfl, hZ, hh⟩ := hP
  have hx := Bd.exec
  have hby := Bd.bytes
  have hlk : meth.locks = false := BodyLoose.notSynchronized Bd
  have hml : c.maxLocals = 5 := hml0
  have hown : s.vm.findClass "java/lang/StringUTF16" = some m.cls := findClass_of_methodNamed Bd.named
  have hnm := (name_of_methodNamed Bd.named Bd.method).1
  have X0 : Stand p l e ({ frames := 2, cells := 1, slots := 4, locals := 24 } : Room) s m #[(.ref a1), (.int (0 : Int32)), (.int (2 : Int32))] below meth c s₁ [] 0 0 := Stand.of_body Bd
  have e0 : s₁.heap = h0 := by rw [← hh, Bd.state]; rfl
  have N0 := Fr.nil n0
  show Gl p.tables e below _ _
  refine Gl.pre (fun t k => castTop (ef_tb2 m a1 c0 c1) k) ?_
  refine Gl.gen (fun PP hPP => ?_)
  have K0 : Keep h0 h0 [] := Keep.refl h0 _
  show Gl p.tables e below PP (s₁.setTop (mkF m 0 #[.val (.ref a1), .val (.int (0 : Int32)), .val (.int (2 : Int32)), .unset, .unset] []))
  refine Y.iloadN X0 hx (hb hby d22_0) rfl ?_
  obtain ⟨_, _, ⟨T1, L1, k1, n1⟩, -, X1, ⟨Lc1, hQ1, l1, y1, z1⟩, st1⟩ := Jvm.LawKit.callS X0 hx (y := (⟨"java/lang/StringUTF16", "newBytesFor", "(I)[B"⟩ : MethodName)) hown (mvT hZ (W 108 rfl)) (mvT hZ (W 99 rfl)) (mvT hZ (W 26 rfl)) (mvT hZ (W 100 rfl)) (by decide) (backOf (W := 0) (rmnf2 l Z a0 hw []  h0 n0 Z0 ) hZ (W 100 rfl) (W 26 rfl) (by decide) (by decide)) (g := (mkF m 1 #[.val (.ref a1), .val (.int (0 : Int32)), .val (.int (2 : Int32)), .unset, .unset] [(.int (2 : Int32))])) rfl (by rw [hml]; rfl) (argsL := [(.int (2 : Int32))]) (rest := []) (lenOf pd_1 rfl) rfl (by show 2 * 0 + _ ≤ _; exact Nat.le_of_eq rfl) (hb hby d22_1) (fun _ _ => ⟨rfl, e0, (by decide : 0 + 1 ≤ _), (by decide : 0 + 4 ≤ _)⟩)
  dsimp only [Pt.U, Pt.locs, Pt.cells, Pt.slots] at X1 l1 y1 z1 st1 hQ1
  subst l1 y1 z1
  obtain ⟨bn1, rfl, N1q, hz1, K1, V1q, Eb1⟩ := hQ1
  have N1 := Fr.app N0 N1q
  refine Gl.pre (fun _ k => st1 _ k) ?_
  have own_ne_a1_bn1 : a1 ≠ bn1 := Nat.ne_of_lt (Nat.lt_of_lt_of_le V_a1.lt hz1)
  have own_ne_bn1_a1 := own_ne_a1_bn1.symm
  have g_bn1 : n0 ≤ bn1 := Nat.le_trans Z0 hz1
  have sz_bn1 : h0.size ≤ bn1 := Nat.le_trans K0.1 hz1
  have V_a1 := V_a1.keep K1 nin0
  have O_ := O_.keep K1 all0
  have Z1 : n0 ≤ T1.heap.size := Nat.le_trans Z0 K1.1
  have K1k := K0.trans K1 all0
  have V_bn1 := V1q
  have E_bn1 := Eb1
  refine Y.astoreN X1 hx (hb hby d22_4) rfl rfl (l' := #[.val (.ref a1), .val (.int (0 : Int32)), .val (.int (2 : Int32)), .val (.ref bn1), .unset]) rfl ?_
  refine Y.iconst X1 hx (hb hby d22_5) ?_
  refine Y.istore X1 hx (hb hby d22_6) rfl (l' := #[.val (.ref a1), .val (.int (0 : Int32)), .val (.int (2 : Int32)), .val (.ref bn1), .val (.int (0 : Int32))]) rfl ?_
  refine Y.iload X1 hx (hb hby d22_8) rfl ?_
  refine Y.iloadN X1 hx (hb hby d22_10) rfl ?_
  refine Y.icmpNo X1 hx (hb hby d22_11) rfl (tlt (show (0 : Int32) < (2 : Int32) from (by decide))).2.1 ?_
  refine Y.aloadN X1 hx (hb hby d22_14) rfl rfl ?_
  refine Y.iload X1 hx (hb hby d22_15) rfl ?_
  refine Y.aloadN X1 hx (hb hby d22_17) rfl rfl ?_
  refine Y.iloadN X1 hx (hb hby d22_18) rfl ?_
  refine Gl.pre (fun _ k => own_ldC X1 hx hZ rfl V_a1 (j := (0 : Int32)) (i := 0) (by decide) (by decide) (Nat.lt_of_lt_of_eq (by decide : 0 < 2) rfl) (v := c0) rfl (g := (mkF m 19 #[.val (.ref a1), .val (.int (0 : Int32)), .val (.int (2 : Int32)), .val (.ref bn1), .val (.int (0 : Int32))] [(.int (0 : Int32)), (.ref a1), (.int (0 : Int32)), (.ref bn1)])) rfl rfl (hb hby d22_19) _ k) ?_
  obtain ⟨_, _, ⟨T2, L2, k2, n2⟩, -, X2, ⟨Lc2, hQ2, l2, y2, z2⟩, st2⟩ := Jvm.LawKit.callS X1 hx (y := (⟨"java/lang/StringUTF16", "putChar", "([BII)V"⟩ : MethodName)) hown (mvT hZ (W 109 rfl)) (mvT hZ (W 110 rfl)) (mvT hZ (W 26 rfl)) (mvT hZ (W 111 rfl)) (by decide) (backOf (W := 0) (rmpu0 l Z a0 hw [] bn1 c0 ([(0 : Int32), (0 : Int32), (0 : Int32), (0 : Int32)]) T1.heap n0 Z1 V_bn1 g_bn1 (Nat.lt_of_lt_of_eq (by decide : 1 < 4) rfl) SAD SHI SLO O_) hZ (W 111 rfl) (W 26 rfl) (by decide) (by decide)) (g := (mkF m 20 #[.val (.ref a1), .val (.int (0 : Int32)), .val (.int (2 : Int32)), .val (.ref bn1), .val (.int (0 : Int32))] [(.int c0), (.int (0 : Int32)), (.ref bn1)])) rfl (by rw [hml]; rfl) (argsL := [(.ref bn1), (.int (0 : Int32)), (.int c0)]) (rest := []) (lenOf pd_2 rfl) rfl (by show 2 * 0 + _ ≤ _; exact Nat.le_of_eq rfl) (hb hby d22_20) (fun _ _ => ⟨rfl, rfl, (by decide : 1 + 0 ≤ _), (by decide : 4 + 0 ≤ _)⟩)
  dsimp only [Pt.U, Pt.locs, Pt.cells, Pt.slots] at X2 l2 y2 z2 st2 hQ2
  subst l2 y2 z2
  obtain ⟨rfl, N2q, K2, V2q⟩ := hQ2
  have N2 := Fr.app N1 N2q
  refine Gl.pre (fun _ k => st2 _ k) ?_
  have V_a1 := V_a1.keep K2 (ninS (own_ne_a1_bn1) nin0)
  have O_ := O_.keep K2 (allS g_bn1 all0)
  have E_bn1 := E_bn1.keep K2
  have Z2 : n0 ≤ T2.heap.size := Nat.le_trans Z1 K2.1
  have K2k := K1k.trans K2 (allS (Or.inr sz_bn1) all0)
  have V_bn1 : Bal Z T2.heap bn1 .byte [(nar .byte ((c0 >>> ((0 : Int32) &&& 31)).toInt8.toInt32)), (nar .byte ((c0 >>> ((8 : Int32) &&& 31)).toInt8.toInt32)), (0 : Int32), (0 : Int32)] := V2q
  refine Y.iinc X2 hx (hb hby d22_23) rfl (l' := #[.val (.ref a1), .val (.int (1 : Int32)), .val (.int (2 : Int32)), .val (.ref bn1), .val (.int (0 : Int32))]) rfl ?_
  refine Y.iinc X2 hx (hb hby d22_26) rfl (l' := #[.val (.ref a1), .val (.int (1 : Int32)), .val (.int (2 : Int32)), .val (.ref bn1), .val (.int (1 : Int32))]) rfl ?_
  refine Y.goto X2 hx (pc0 := 29) (pc' := 8) rfl (hb hby d22_29) (by decide) (by decide) ?_
  refine Y.iload X2 hx (hb hby d22_8) rfl ?_
  refine Y.iloadN X2 hx (hb hby d22_10) rfl ?_
  refine Y.icmpNo X2 hx (hb hby d22_11) rfl (tlt (show (1 : Int32) < (2 : Int32) from (by decide))).2.1 ?_
  refine Y.aloadN X2 hx (hb hby d22_14) rfl rfl ?_
  refine Y.iload X2 hx (hb hby d22_15) rfl ?_
  refine Y.aloadN X2 hx (hb hby d22_17) rfl rfl ?_
  refine Y.iloadN X2 hx (hb hby d22_18) rfl ?_
  refine Gl.pre (fun _ k => own_ldC X2 hx hZ rfl V_a1 (j := (1 : Int32)) (i := 1) (by decide) (by decide) (Nat.lt_of_lt_of_eq (by decide : 1 < 2) rfl) (v := c1) rfl (g := (mkF m 19 #[.val (.ref a1), .val (.int (1 : Int32)), .val (.int (2 : Int32)), .val (.ref bn1), .val (.int (1 : Int32))] [(.int (1 : Int32)), (.ref a1), (.int (1 : Int32)), (.ref bn1)])) rfl rfl (hb hby d22_19) _ k) ?_
  obtain ⟨_, _, ⟨T3, L3, k3, n3⟩, -, X3, ⟨Lc3, hQ3, l3, y3, z3⟩, st3⟩ := Jvm.LawKit.callS X2 hx (y := (⟨"java/lang/StringUTF16", "putChar", "([BII)V"⟩ : MethodName)) hown (mvT hZ (W 109 rfl)) (mvT hZ (W 110 rfl)) (mvT hZ (W 26 rfl)) (mvT hZ (W 111 rfl)) (by decide) (backOf (W := 0) (rmpu1 l Z a0 hw [] bn1 c1 ([(nar .byte ((c0 >>> ((0 : Int32) &&& 31)).toInt8.toInt32)), (nar .byte ((c0 >>> ((8 : Int32) &&& 31)).toInt8.toInt32)), (0 : Int32), (0 : Int32)]) T2.heap n0 Z2 V_bn1 g_bn1 (Nat.lt_of_lt_of_eq (by decide : 3 < 4) rfl) SAD SHI SLO O_) hZ (W 111 rfl) (W 26 rfl) (by decide) (by decide)) (g := (mkF m 20 #[.val (.ref a1), .val (.int (1 : Int32)), .val (.int (2 : Int32)), .val (.ref bn1), .val (.int (1 : Int32))] [(.int c1), (.int (1 : Int32)), (.ref bn1)])) rfl (by rw [hml]; rfl) (argsL := [(.ref bn1), (.int (1 : Int32)), (.int c1)]) (rest := []) (lenOf pd_2 rfl) rfl (by show 2 * 0 + _ ≤ _; exact Nat.le_of_eq rfl) (hb hby d22_20) (fun _ _ => ⟨rfl, rfl, (by decide : 1 + 0 ≤ _), (by decide : 4 + 0 ≤ _)⟩)
  dsimp only [Pt.U, Pt.locs, Pt.cells, Pt.slots] at X3 l3 y3 z3 st3 hQ3
  subst l3 y3 z3
  obtain ⟨rfl, N3q, K3, V3q⟩ := hQ3
  have N3 := Fr.app N2 N3q
  refine Gl.pre (fun _ k => st3 _ k) ?_
  have V_a1 := V_a1.keep K3 (ninS (own_ne_a1_bn1) nin0)
  have O_ := O_.keep K3 (allS g_bn1 all0)
  have E_bn1 := E_bn1.keep K3
  have Z3 : n0 ≤ T3.heap.size := Nat.le_trans Z2 K3.1
  have K3k := K2k.trans K3 (allS (Or.inr sz_bn1) all0)
  have V_bn1 : Bal Z T3.heap bn1 .byte [(nar .byte ((c0 >>> ((0 : Int32) &&& 31)).toInt8.toInt32)), (nar .byte ((c0 >>> ((8 : Int32) &&& 31)).toInt8.toInt32)), (nar .byte ((c1 >>> ((0 : Int32) &&& 31)).toInt8.toInt32)), (nar .byte ((c1 >>> ((8 : Int32) &&& 31)).toInt8.toInt32))] := V3q
  refine Y.iinc X3 hx (hb hby d22_23) rfl (l' := #[.val (.ref a1), .val (.int (2 : Int32)), .val (.int (2 : Int32)), .val (.ref bn1), .val (.int (1 : Int32))]) rfl ?_
  refine Y.iinc X3 hx (hb hby d22_26) rfl (l' := #[.val (.ref a1), .val (.int (2 : Int32)), .val (.int (2 : Int32)), .val (.ref bn1), .val (.int (2 : Int32))]) rfl ?_
  refine Y.goto X3 hx (pc0 := 29) (pc' := 8) rfl (hb hby d22_29) (by decide) (by decide) ?_
  refine Y.iload X3 hx (hb hby d22_8) rfl ?_
  refine Y.iloadN X3 hx (hb hby d22_10) rfl ?_
  refine Y.icmpYes X3 hx (pc0 := 11) (pc' := 32) rfl (hb hby d22_11) rfl (flt (show ¬ ((2 : Int32) < (2 : Int32)) from (by decide))).2.1 (by decide) (by decide) ?_
  refine Y.aloadN X3 hx (hb hby d22_32) rfl rfl ?_
  rw [hPP]
  refine own_finA (Q := (Qtb2 Z a1 c0 c1 h0 n0)) X3 hx hlk Bd.returns rfl rfl (hb hby d22_33) ?_ (by decide) (by decide)
  show Qtb2 Z a1 c0 c1 h0 n0 _ T3.heap _
  exact ⟨bn1, rfl, N3, sz_bn1, K3k, V_bn1, E_bn1⟩
theorem ef_gc2_0 (m : MethodId) (a1 : Addr) (y0 : Int32) (y1 : Int32) (y2 : Int32) (y3 : Int32) : entryFrame m #[(.ref a1), (.int (0 : Int32))] 2 = mkF m 0 #[.val (.ref a1), .val (.int (0 : Int32))] [] := by first | (simp [entryFrame, mkF, argsToLocals, Value.category]; done) | rfl
def Qgc2_0 (Z : State) (a1 : Addr) (y0 : Int32) (y1 : Int32) (y2 : Int32) (y3 : Int32) (h0 : Heap) (n0 : Nat) (v : Option Value) (h : Heap) (L : List Loc) : Prop := v = some (.int (nar .char ((((y0 &&& (255 : Int32)) <<< ((0 : Int32) &&& 31)) ||| ((y1 &&& (255 : Int32)) <<< ((8 : Int32) &&& 31))).toUInt32.toUInt16.toUInt32.toInt32))) ∧ Fr n0 L ∧ h = h0
set_option maxRecDepth 65536 in
set_option maxHeartbeats 40000000 in
theorem rmgc2_0 (l : Launch) (Z : State) (a0 : Array Value) (hw : ∀ d ∈ tables_1, d.before a0 Z = true) (ws : List Jvm.Cond) (a1 : Addr) (y0 : Int32) (y1 : Int32) (y2 : Int32) (y3 : Int32) (h0 : Heap) (n0 : Nat) (Z0 : n0 ≤ h0.size) (V_a1 : Bal Z h0 a1 .byte [y0, y1, y2, y3]) (SAD : Sta Z Z.heap "java/lang/StringUTF16" "$assertionsDisabled" "Z" (.int (1 : Int32))) (SHI : Sta Z Z.heap "java/lang/StringUTF16" "HI_BYTE_SHIFT" "I" (.int (0 : Int32))) (SLO : Sta Z Z.heap "java/lang/StringUTF16" "LO_BYTE_SHIFT" "I" (.int (8 : Int32))) (O_ : Old Z n0 h0) :
    MetFree l (⟨"java/lang/StringUTF16", "getChar", "([BI)C"⟩ : MethodName) (head1 (Jvm.Cond.code (⟨"java/lang/StringUTF16", "getChar", "([BI)C"⟩ : MethodName) jdk_52_method_5_code 2 (some .char) :: ws) ({ frames := 0, cells := 0, slots := 0, locals := 0 } : Room)) (fun a U => a = #[(.ref a1), (.int (0 : Int32))] ∧ Z.Warmed39 U.vm ∧ U.heap = h0) (fun _ _ _ _ _ => True) (fun _ U o U' => ∃ v L, o = .returned v ∧ Qgc2_0 Z a1 y0 y1 y2 y3 h0 n0 v U'.heap L ∧ FrameEnd U o U' L ({ frames := 0, cells := 0, slots := 0, locals := 0 } : Room).cells ({ frames := 0, cells := 0, slots := 0, locals := 0 } : Room).slots) := by
  have W := @own_wd Z a0 hw
  refine MetFree.of_bodySF (plainFor_of_name pn_24) hisR ?_
  intro p e s m args below meth c s₁ Bd hml0 hP hK
  obtain ⟨rfl, hZ, hh⟩ := hP
  have hx := Bd.exec
  have hby := Bd.bytes
  have hlk : meth.locks = false := BodyLoose.notSynchronized Bd
  have hml : c.maxLocals = 2 := hml0
  have hown : s.vm.findClass "java/lang/StringUTF16" = some m.cls := findClass_of_methodNamed Bd.named
  have hnm := (name_of_methodNamed Bd.named Bd.method).1
  have X0 : Stand p l e ({ frames := 0, cells := 0, slots := 0, locals := 0 } : Room) s m #[(.ref a1), (.int (0 : Int32))] below meth c s₁ [] 0 0 := Stand.of_body Bd
  have e0 : s₁.heap = h0 := by rw [← hh, Bd.state]; rfl
  have N0 := Fr.nil n0
  show Gl p.tables e below _ _
  refine Gl.pre (fun t k => castTop (ef_gc2_0 m a1 y0 y1 y2 y3) k) ?_
  refine Gl.gen (fun PP hPP => ?_)
  show Gl p.tables e below PP (s₁.setTop (mkF m 0 #[.val (.ref a1), .val (.int (0 : Int32))] []))
  obtain ⟨T1, X1, e1, st1⟩ := getS2 X0 hx hZ hown (host := "") (Or.inl (W 112 rfl)) Via.refl e0 (SAD.ext O_.2) (g := (mkF m 0 #[.val (.ref a1), .val (.int (0 : Int32))] [])) rfl (hb hby d24_0)
  refine Gl.pre (fun _ k => st1 _ k) ?_
  refine Y.ifYes X1 hx (pc0 := 3) (pc' := 28) rfl (hb hby d24_3) rfl ((if0 _ _).trans (feq (show ¬ ((1 : Int32) = (0 : Int32)) from (by decide))).2) (by decide) (by decide) ?_
  refine Y.iloadN X1 hx (hb hby d24_28) rfl ?_
  refine Y.iconst X1 hx (hb hby d24_29) ?_
  refine Y.ishl X1 hx (hb hby d24_30) rfl ?_
  show Gl p.tables e below PP (T1.setTop (mkF m 31 #[.val (.ref a1), .val (.int (0 : Int32))] [(.int ((0 : Int32) <<< ((1 : Int32) &&& 31)))]))
  rw [show ((0 : Int32) <<< ((1 : Int32) &&& 31)) = (0 : Int32) by decide]
  show Gl p.tables e below PP (T1.setTop (mkF m 31 #[.val (.ref a1), .val (.int (0 : Int32))] [(.int (0 : Int32))]))
  refine Y.istoreN X1 hx (hb hby d24_31) rfl (l' := #[.val (.ref a1), .val (.int (0 : Int32))]) rfl ?_
  refine Y.aloadN X1 hx (hb hby d24_32) rfl rfl ?_
  refine Y.iloadN X1 hx (hb hby d24_33) rfl ?_
  refine Y.iinc X1 hx (hb hby d24_34) rfl (l' := #[.val (.ref a1), .val (.int (1 : Int32))]) rfl ?_
  refine Gl.pre (fun _ k => own_ldB X1 hx hZ e1 V_a1 (j := (0 : Int32)) (i := 0) (by decide) (by decide) (Nat.lt_of_lt_of_eq (by decide : 0 < 4) rfl) (v := y0) rfl (g := (mkF m 37 #[.val (.ref a1), .val (.int (1 : Int32))] [(.int (0 : Int32)), (.ref a1)])) rfl rfl (hb hby d24_37) _ k) ?_
  refine Y.sipush X1 hx (hb hby d24_38) ?_
  refine Y.iand X1 hx (hb hby d24_41) rfl ?_
  obtain ⟨T2, X2, e2, st2⟩ := getS2 X1 hx hZ hown (host := "") (Or.inl (W 113 rfl)) Via.refl e1 (SHI.ext O_.2) (g := (mkF m 42 #[.val (.ref a1), .val (.int (1 : Int32))] [(.int (y0 &&& (255 : Int32)))])) rfl (hb hby d24_42)
  refine Gl.pre (fun _ k => st2 _ k) ?_
  refine Y.ishl X2 hx (hb hby d24_45) rfl ?_
  refine Y.aloadN X2 hx (hb hby d24_46) rfl rfl ?_
  refine Y.iloadN X2 hx (hb hby d24_47) rfl ?_
  refine Gl.pre (fun _ k => own_ldB X2 hx hZ e2 V_a1 (j := (1 : Int32)) (i := 1) (by decide) (by decide) (Nat.lt_of_lt_of_eq (by decide : 1 < 4) rfl) (v := y1) rfl (g := (mkF m 48 #[.val (.ref a1), .val (.int (1 : Int32))] [(.int (1 : Int32)), (.ref a1), (.int ((y0 &&& (255 : Int32)) <<< ((0 : Int32) &&& 31)))])) rfl rfl (hb hby d24_48) _ k) ?_
  refine Y.sipush X2 hx (hb hby d24_49) ?_
  refine Y.iand X2 hx (hb hby d24_52) rfl ?_
  obtain ⟨T3, X3, e3, st3⟩ := getS2 X2 hx hZ hown (host := "") (Or.inl (W 114 rfl)) Via.refl e2 (SLO.ext O_.2) (g := (mkF m 53 #[.val (.ref a1), .val (.int (1 : Int32))] [(.int (y1 &&& (255 : Int32))), (.int ((y0 &&& (255 : Int32)) <<< ((0 : Int32) &&& 31)))])) rfl (hb hby d24_53)
  refine Gl.pre (fun _ k => st3 _ k) ?_
  refine Y.ishl X3 hx (hb hby d24_56) rfl ?_
  refine Y.ior X3 hx (hb hby d24_57) rfl ?_
  refine Y.i2c X3 hx (hb hby d24_58) rfl ?_
  rw [hPP]
  refine own_finN (Q := (Qgc2_0 Z a1 y0 y1 y2 y3 h0 n0)) X3 hx hlk Bd.returns (t := .char) (by simp) rfl (hb hby d24_59) ?_ (by decide) (by decide)
  show Qgc2_0 Z a1 y0 y1 y2 y3 h0 n0 _ T3.heap _
  rw [e3]
  exact ⟨rfl, N0, rfl⟩
theorem ef_gc2_1 (m : MethodId) (a1 : Addr) (y0 : Int32) (y1 : Int32) (y2 : Int32) (y3 : Int32) : entryFrame m #[(.ref a1), (.int (1 : Int32))] 2 = mkF m 0 #[.val (.ref a1), .val (.int (1 : Int32))] [] := by first | (simp [entryFrame, mkF, argsToLocals, Value.category]; done) | rfl
def Qgc2_1 (Z : State) (a1 : Addr) (y0 : Int32) (y1 : Int32) (y2 : Int32) (y3 : Int32) (h0 : Heap) (n0 : Nat) (v : Option Value) (h : Heap) (L : List Loc) : Prop := v = some (.int (nar .char ((((y2 &&& (255 : Int32)) <<< ((0 : Int32) &&& 31)) ||| ((y3 &&& (255 : Int32)) <<< ((8 : Int32) &&& 31))).toUInt32.toUInt16.toUInt32.toInt32))) ∧ Fr n0 L ∧ h = h0
set_option maxRecDepth 65536 in
set_option maxHeartbeats 40000000 in
theorem rmgc2_1 (l : Launch) (Z : State) (a0 : Array Value) (hw : ∀ d ∈ tables_1, d.before a0 Z = true) (ws : List Jvm.Cond) (a1 : Addr) (y0 : Int32) (y1 : Int32) (y2 : Int32) (y3 : Int32) (h0 : Heap) (n0 : Nat) (Z0 : n0 ≤ h0.size) (V_a1 : Bal Z h0 a1 .byte [y0, y1, y2, y3]) (SAD : Sta Z Z.heap "java/lang/StringUTF16" "$assertionsDisabled" "Z" (.int (1 : Int32))) (SHI : Sta Z Z.heap "java/lang/StringUTF16" "HI_BYTE_SHIFT" "I" (.int (0 : Int32))) (SLO : Sta Z Z.heap "java/lang/StringUTF16" "LO_BYTE_SHIFT" "I" (.int (8 : Int32))) (O_ : Old Z n0 h0) :
    MetFree l (⟨"java/lang/StringUTF16", "getChar", "([BI)C"⟩ : MethodName) (head1 (Jvm.Cond.code (⟨"java/lang/StringUTF16", "getChar", "([BI)C"⟩ : MethodName) jdk_52_method_5_code 2 (some .char) :: ws) ({ frames := 0, cells := 0, slots := 0, locals := 0 } : Room)) (fun a U => a = #[(.ref a1), (.int (1 : Int32))] ∧ Z.Warmed39 U.vm ∧ U.heap = h0) (fun _ _ _ _ _ => True) (fun _ U o U' => ∃ v L, o = .returned v ∧ Qgc2_1 Z a1 y0 y1 y2 y3 h0 n0 v U'.heap L ∧ FrameEnd U o U' L ({ frames := 0, cells := 0, slots := 0, locals := 0 } : Room).cells ({ frames := 0, cells := 0, slots := 0, locals := 0 } : Room).slots) := by
  have W := @own_wd Z a0 hw
  refine MetFree.of_bodySF (plainFor_of_name pn_24) hisR ?_
  intro p e s m args below meth c s₁ Bd hml0 hP hK
  obtain ⟨rfl, hZ, hh⟩ := hP
  have hx := Bd.exec
  have hby := Bd.bytes
  have hlk : meth.locks = false := BodyLoose.notSynchronized Bd
  have hml : c.maxLocals = 2 := hml0
  have hown : s.vm.findClass "java/lang/StringUTF16" = some m.cls := findClass_of_methodNamed Bd.named
  have hnm := (name_of_methodNamed Bd.named Bd.method).1
  have X0 : Stand p l e ({ frames := 0, cells := 0, slots := 0, locals := 0 } : Room) s m #[(.ref a1), (.int (1 : Int32))] below meth c s₁ [] 0 0 := Stand.of_body Bd
  have e0 : s₁.heap = h0 := by rw [← hh, Bd.state]; rfl
  have N0 := Fr.nil n0
  show Gl p.tables e below _ _
  refine Gl.pre (fun t k => castTop (ef_gc2_1 m a1 y0 y1 y2 y3) k) ?_
  refine Gl.gen (fun PP hPP => ?_)
  show Gl p.tables e below PP (s₁.setTop (mkF m 0 #[.val (.ref a1), .val (.int (1 : Int32))] []))
  obtain ⟨T1, X1, e1, st1⟩ := getS2 X0 hx hZ hown (host := "") (Or.inl (W 112 rfl)) Via.refl e0 (SAD.ext O_.2) (g := (mkF m 0 #[.val (.ref a1), .val (.int (1 : Int32))] [])) rfl (hb hby d24_0)
  refine Gl.pre (fun _ k => st1 _ k) ?_
  refine Y.ifYes X1 hx (pc0 := 3) (pc' := 28) rfl (hb hby d24_3) rfl ((if0 _ _).trans (feq (show ¬ ((1 : Int32) = (0 : Int32)) from (by decide))).2) (by decide) (by decide) ?_
  refine Y.iloadN X1 hx (hb hby d24_28) rfl ?_
  refine Y.iconst X1 hx (hb hby d24_29) ?_
  refine Y.ishl X1 hx (hb hby d24_30) rfl ?_
  show Gl p.tables e below PP (T1.setTop (mkF m 31 #[.val (.ref a1), .val (.int (1 : Int32))] [(.int ((1 : Int32) <<< ((1 : Int32) &&& 31)))]))
  rw [show ((1 : Int32) <<< ((1 : Int32) &&& 31)) = (2 : Int32) by decide]
  show Gl p.tables e below PP (T1.setTop (mkF m 31 #[.val (.ref a1), .val (.int (1 : Int32))] [(.int (2 : Int32))]))
  refine Y.istoreN X1 hx (hb hby d24_31) rfl (l' := #[.val (.ref a1), .val (.int (2 : Int32))]) rfl ?_
  refine Y.aloadN X1 hx (hb hby d24_32) rfl rfl ?_
  refine Y.iloadN X1 hx (hb hby d24_33) rfl ?_
  refine Y.iinc X1 hx (hb hby d24_34) rfl (l' := #[.val (.ref a1), .val (.int (3 : Int32))]) rfl ?_
  refine Gl.pre (fun _ k => own_ldB X1 hx hZ e1 V_a1 (j := (2 : Int32)) (i := 2) (by decide) (by decide) (Nat.lt_of_lt_of_eq (by decide : 2 < 4) rfl) (v := y2) rfl (g := (mkF m 37 #[.val (.ref a1), .val (.int (3 : Int32))] [(.int (2 : Int32)), (.ref a1)])) rfl rfl (hb hby d24_37) _ k) ?_
  refine Y.sipush X1 hx (hb hby d24_38) ?_
  refine Y.iand X1 hx (hb hby d24_41) rfl ?_
  obtain ⟨T2, X2, e2, st2⟩ := getS2 X1 hx hZ hown (host := "") (Or.inl (W 113 rfl)) Via.refl e1 (SHI.ext O_.2) (g := (mkF m 42 #[.val (.ref a1), .val (.int (3 : Int32))] [(.int (y2 &&& (255 : Int32)))])) rfl (hb hby d24_42)
  refine Gl.pre (fun _ k => st2 _ k) ?_
  refine Y.ishl X2 hx (hb hby d24_45) rfl ?_
  refine Y.aloadN X2 hx (hb hby d24_46) rfl rfl ?_
  refine Y.iloadN X2 hx (hb hby d24_47) rfl ?_
  refine Gl.pre (fun _ k => own_ldB X2 hx hZ e2 V_a1 (j := (3 : Int32)) (i := 3) (by decide) (by decide) (Nat.lt_of_lt_of_eq (by decide : 3 < 4) rfl) (v := y3) rfl (g := (mkF m 48 #[.val (.ref a1), .val (.int (3 : Int32))] [(.int (3 : Int32)), (.ref a1), (.int ((y2 &&& (255 : Int32)) <<< ((0 : Int32) &&& 31)))])) rfl rfl (hb hby d24_48) _ k) ?_
  refine Y.sipush X2 hx (hb hby d24_49) ?_
  refine Y.iand X2 hx (hb hby d24_52) rfl ?_
  obtain ⟨T3, X3, e3, st3⟩ := getS2 X2 hx hZ hown (host := "") (Or.inl (W 114 rfl)) Via.refl e2 (SLO.ext O_.2) (g := (mkF m 53 #[.val (.ref a1), .val (.int (3 : Int32))] [(.int (y3 &&& (255 : Int32))), (.int ((y2 &&& (255 : Int32)) <<< ((0 : Int32) &&& 31)))])) rfl (hb hby d24_53)
  refine Gl.pre (fun _ k => st3 _ k) ?_
  refine Y.ishl X3 hx (hb hby d24_56) rfl ?_
  refine Y.ior X3 hx (hb hby d24_57) rfl ?_
  refine Y.i2c X3 hx (hb hby d24_58) rfl ?_
  rw [hPP]
  refine own_finN (Q := (Qgc2_1 Z a1 y0 y1 y2 y3 h0 n0)) X3 hx hlk Bd.returns (t := .char) (by simp) rfl (hb hby d24_59) ?_ (by decide) (by decide)
  show Qgc2_1 Z a1 y0 y1 y2 y3 h0 n0 _ T3.heap _
  rw [e3]
  exact ⟨rfl, N0, rfl⟩
theorem ef_cf2_2 (m : MethodId) (a1 : Addr) (ys : List Int32) : entryFrame m #[(.ref a1), (.int (2 : Int32))] 2 = mkF m 0 #[.val (.ref a1), .val (.int (2 : Int32))] [] := by first | (simp [entryFrame, mkF, argsToLocals, Value.category]; done) | rfl
def Qcf2_2 (Z : State) (a1 : Addr) (ys : List Int32) (h0 : Heap) (n0 : Nat) (v : Option Value) (h : Heap) (L : List Loc) : Prop := v = some (.int (0 : Int32)) ∧ Fr n0 L ∧ h = h0
set_option maxRecDepth 65536 in
set_option maxHeartbeats 40000000 in
theorem rmcf2_2 (l : Launch) (Z : State) (a0 : Array Value) (hw : ∀ d ∈ tables_1, d.before a0 Z = true) (ws : List Jvm.Cond) (a1 : Addr) (ys : List Int32) (h0 : Heap) (n0 : Nat) (Z0 : n0 ≤ h0.size) (V_a1 : Bal Z h0 a1 .byte ys) (hlen : ys.length = 2) :
    MetFree l (⟨"java/lang/StringUTF16", "coderFromArrayLen", "([BI)B"⟩ : MethodName) (head1 (Jvm.Cond.code (⟨"java/lang/StringUTF16", "coderFromArrayLen", "([BI)B"⟩ : MethodName) jdk_52_method_15_code 2 (some .byte) :: ws) ({ frames := 0, cells := 0, slots := 0, locals := 0 } : Room)) (fun a U => a = #[(.ref a1), (.int (2 : Int32))] ∧ Z.Warmed39 U.vm ∧ U.heap = h0) (fun _ _ _ _ _ => True) (fun _ U o U' => ∃ v L, o = .returned v ∧ Qcf2_2 Z a1 ys h0 n0 v U'.heap L ∧ FrameEnd U o U' L ({ frames := 0, cells := 0, slots := 0, locals := 0 } : Room).cells ({ frames := 0, cells := 0, slots := 0, locals := 0 } : Room).slots) := by
  have W := @own_wd Z a0 hw
  refine MetFree.of_bodySF (plainFor_of_name pn_8) hisR ?_
  intro p e s m args below meth c s₁ Bd hml0 hP hK
  obtain ⟨rfl, hZ, hh⟩ := hP
  have hx := Bd.exec
  have hby := Bd.bytes
  have hlk : meth.locks = false := BodyLoose.notSynchronized Bd
  have hml : c.maxLocals = 2 := hml0
  have hown : s.vm.findClass "java/lang/StringUTF16" = some m.cls := findClass_of_methodNamed Bd.named
  have hnm := (name_of_methodNamed Bd.named Bd.method).1
  have X0 : Stand p l e ({ frames := 0, cells := 0, slots := 0, locals := 0 } : Room) s m #[(.ref a1), (.int (2 : Int32))] below meth c s₁ [] 0 0 := Stand.of_body Bd
  have e0 : s₁.heap = h0 := by rw [← hh, Bd.state]; rfl
  have N0 := Fr.nil n0
  show Gl p.tables e below _ _
  refine Gl.pre (fun t k => castTop (ef_cf2_2 m a1 ys) k) ?_
  refine Gl.gen (fun PP hPP => ?_)
  show Gl p.tables e below PP (s₁.setTop (mkF m 0 #[.val (.ref a1), .val (.int (2 : Int32))] []))
  refine Y.iloadN X0 hx (hb hby d8_0) rfl ?_
  refine Y.aloadN X0 hx (hb hby d8_1) rfl rfl ?_
  refine Gl.pre (fun _ k => own_len X0 hx hZ e0 V_a1 (v := (2 : Int32)) (by rw [hlen]; rfl) (g := (mkF m 2 #[.val (.ref a1), .val (.int (2 : Int32))] [(.ref a1), (.int (2 : Int32))])) rfl rfl (hb hby d8_2) _ k) ?_
  refine Y.isub X0 hx (hb hby d8_3) rfl ?_
  show Gl p.tables e below PP (s₁.setTop (mkF m 4 #[.val (.ref a1), .val (.int (2 : Int32))] [(.int ((2 : Int32) - (2 : Int32)))]))
  rw [show ((2 : Int32) - (2 : Int32)) = (0 : Int32) by decide]
  show Gl p.tables e below PP (s₁.setTop (mkF m 4 #[.val (.ref a1), .val (.int (2 : Int32))] [(.int (0 : Int32))]))
  refine Y.bipush X0 hx (hb hby d8_4) ?_
  refine Y.iushr X0 hx (hb hby d8_6) rfl ?_
  show Gl p.tables e below PP (s₁.setTop (mkF m 7 #[.val (.ref a1), .val (.int (2 : Int32))] [(.int (own_ushr (0 : Int32) (31 : Int32)))]))
  rw [show (own_ushr (0 : Int32) (31 : Int32)) = (0 : Int32) by decide]
  show Gl p.tables e below PP (s₁.setTop (mkF m 7 #[.val (.ref a1), .val (.int (2 : Int32))] [(.int (0 : Int32))]))
  refine Y.i2b X0 hx (hb hby d8_7) rfl ?_
  show Gl p.tables e below PP (s₁.setTop (mkF m 8 #[.val (.ref a1), .val (.int (2 : Int32))] [(.int ((0 : Int32).toInt8.toInt32))]))
  rw [show ((0 : Int32).toInt8.toInt32) = (0 : Int32) by decide]
  show Gl p.tables e below PP (s₁.setTop (mkF m 8 #[.val (.ref a1), .val (.int (2 : Int32))] [(.int (0 : Int32))]))
  rw [hPP]
  refine own_finN (Q := (Qcf2_2 Z a1 ys h0 n0)) X0 hx hlk Bd.returns (t := .byte) (z' := (0 : Int32)) (by simp) (by decide) (hb hby d8_8) ?_ (by decide) (by decide)
  show Qcf2_2 Z a1 ys h0 n0 _ s₁.heap _
  rw [e0]
  exact ⟨rfl, N0, rfl⟩
theorem ef_cf2_4 (m : MethodId) (a1 : Addr) (ys : List Int32) : entryFrame m #[(.ref a1), (.int (2 : Int32))] 2 = mkF m 0 #[.val (.ref a1), .val (.int (2 : Int32))] [] := by first | (simp [entryFrame, mkF, argsToLocals, Value.category]; done) | rfl
def Qcf2_4 (Z : State) (a1 : Addr) (ys : List Int32) (h0 : Heap) (n0 : Nat) (v : Option Value) (h : Heap) (L : List Loc) : Prop := v = some (.int (1 : Int32)) ∧ Fr n0 L ∧ h = h0
set_option maxRecDepth 65536 in
set_option maxHeartbeats 40000000 in
theorem rmcf2_4 (l : Launch) (Z : State) (a0 : Array Value) (hw : ∀ d ∈ tables_1, d.before a0 Z = true) (ws : List Jvm.Cond) (a1 : Addr) (ys : List Int32) (h0 : Heap) (n0 : Nat) (Z0 : n0 ≤ h0.size) (V_a1 : Bal Z h0 a1 .byte ys) (hlen : ys.length = 4) :
    MetFree l (⟨"java/lang/StringUTF16", "coderFromArrayLen", "([BI)B"⟩ : MethodName) (head1 (Jvm.Cond.code (⟨"java/lang/StringUTF16", "coderFromArrayLen", "([BI)B"⟩ : MethodName) jdk_52_method_15_code 2 (some .byte) :: ws) ({ frames := 0, cells := 0, slots := 0, locals := 0 } : Room)) (fun a U => a = #[(.ref a1), (.int (2 : Int32))] ∧ Z.Warmed39 U.vm ∧ U.heap = h0) (fun _ _ _ _ _ => True) (fun _ U o U' => ∃ v L, o = .returned v ∧ Qcf2_4 Z a1 ys h0 n0 v U'.heap L ∧ FrameEnd U o U' L ({ frames := 0, cells := 0, slots := 0, locals := 0 } : Room).cells ({ frames := 0, cells := 0, slots := 0, locals := 0 } : Room).slots) := by
  have W := @own_wd Z a0 hw
  refine MetFree.of_bodySF (plainFor_of_name pn_8) hisR ?_
  intro p e s m args below meth c s₁ Bd hml0 hP hK
  obtain ⟨rfl, hZ, hh⟩ := hP
  have hx := Bd.exec
  have hby := Bd.bytes
  have hlk : meth.locks = false := BodyLoose.notSynchronized Bd
  have hml : c.maxLocals = 2 := hml0
  have hown : s.vm.findClass "java/lang/StringUTF16" = some m.cls := findClass_of_methodNamed Bd.named
  have hnm := (name_of_methodNamed Bd.named Bd.method).1
  have X0 : Stand p l e ({ frames := 0, cells := 0, slots := 0, locals := 0 } : Room) s m #[(.ref a1), (.int (2 : Int32))] below meth c s₁ [] 0 0 := Stand.of_body Bd
  have e0 : s₁.heap = h0 := by rw [← hh, Bd.state]; rfl
  have N0 := Fr.nil n0
  show Gl p.tables e below _ _
  refine Gl.pre (fun t k => castTop (ef_cf2_4 m a1 ys) k) ?_
  refine Gl.gen (fun PP hPP => ?_)
  show Gl p.tables e below PP (s₁.setTop (mkF m 0 #[.val (.ref a1), .val (.int (2 : Int32))] []))
  refine Y.iloadN X0 hx (hb hby d8_0) rfl ?_
  refine Y.aloadN X0 hx (hb hby d8_1) rfl rfl ?_
  refine Gl.pre (fun _ k => own_len X0 hx hZ e0 V_a1 (v := (4 : Int32)) (by rw [hlen]; rfl) (g := (mkF m 2 #[.val (.ref a1), .val (.int (2 : Int32))] [(.ref a1), (.int (2 : Int32))])) rfl rfl (hb hby d8_2) _ k) ?_
  refine Y.isub X0 hx (hb hby d8_3) rfl ?_
  show Gl p.tables e below PP (s₁.setTop (mkF m 4 #[.val (.ref a1), .val (.int (2 : Int32))] [(.int ((2 : Int32) - (4 : Int32)))]))
  rw [show ((2 : Int32) - (4 : Int32)) = (-2 : Int32) by decide]
  show Gl p.tables e below PP (s₁.setTop (mkF m 4 #[.val (.ref a1), .val (.int (2 : Int32))] [(.int (-2 : Int32))]))
  refine Y.bipush X0 hx (hb hby d8_4) ?_
  refine Y.iushr X0 hx (hb hby d8_6) rfl ?_
  show Gl p.tables e below PP (s₁.setTop (mkF m 7 #[.val (.ref a1), .val (.int (2 : Int32))] [(.int (own_ushr (-2 : Int32) (31 : Int32)))]))
  rw [show (own_ushr (-2 : Int32) (31 : Int32)) = (1 : Int32) by decide]
  show Gl p.tables e below PP (s₁.setTop (mkF m 7 #[.val (.ref a1), .val (.int (2 : Int32))] [(.int (1 : Int32))]))
  refine Y.i2b X0 hx (hb hby d8_7) rfl ?_
  show Gl p.tables e below PP (s₁.setTop (mkF m 8 #[.val (.ref a1), .val (.int (2 : Int32))] [(.int ((1 : Int32).toInt8.toInt32))]))
  rw [show ((1 : Int32).toInt8.toInt32) = (1 : Int32) by decide]
  show Gl p.tables e below PP (s₁.setTop (mkF m 8 #[.val (.ref a1), .val (.int (2 : Int32))] [(.int (1 : Int32))]))
  rw [hPP]
  refine own_finN (Q := (Qcf2_4 Z a1 ys h0 n0)) X0 hx hlk Bd.returns (t := .byte) (z' := (1 : Int32)) (by simp) (by decide) (hb hby d8_8) ?_ (by decide) (by decide)
  show Qcf2_4 Z a1 ys h0 n0 _ s₁.heap _
  rw [e0]
  exact ⟨rfl, N0, rfl⟩
theorem ef_cm2_2 (m : MethodId) (a1 : Addr) (c0 : Int32) (c1 : Int32) : entryFrame m #[(.ref a1), (.int (0 : Int32)), (.int (2 : Int32))] 6 = mkF m 0 #[.val (.ref a1), .val (.int (0 : Int32)), .val (.int (2 : Int32)), .unset, .unset, .unset] [] := by first | (simp [entryFrame, mkF, argsToLocals, Value.category]; done) | rfl
def Qcm2_2 (Z : State) (a1 : Addr) (c0 : Int32) (c1 : Int32) (h0 : Heap) (n0 : Nat) (v : Option Value) (h : Heap) (L : List Loc) : Prop := ∃ b : Addr, v = some (.ref b) ∧ Fr n0 L ∧ h0.size ≤ b ∧ Keep h0 h [] ∧ Bal Z h b .byte [(nar .byte (c0.toInt8.toInt32)), (nar .byte (c1.toInt8.toInt32))] ∧ Exa Z h b "[B"
set_option maxRecDepth 65536 in
set_option maxHeartbeats 40000000 in
theorem rmcm2_2 (l : Launch) (Z : State) (a0 : Array Value) (hw : ∀ d ∈ tables_1, d.before a0 Z = true) (ws : List Jvm.Cond) (a1 : Addr) (c0 : Int32) (c1 : Int32) (h0 : Heap) (n0 : Nat) (Z0 : n0 ≤ h0.size) (V_a1 : Bal Z h0 a1 .char [c0, c1]) (hc0 : ¬ ((255 : Int32) < c0)) (hc1 : ¬ ((255 : Int32) < c1)) :
    MetFree l (⟨"java/lang/StringUTF16", "compress", "([CII)[B"⟩ : MethodName) (head1 (Jvm.Cond.code (⟨"java/lang/StringUTF16", "compress", "([CII)[B"⟩ : MethodName) jdk_52_method_16_code 6 (some (.array .byte)) :: ws) ({ frames := 1, cells := 1, slots := 2, locals := 18 } : Room)) (fun a U => a = #[(.ref a1), (.int (0 : Int32)), (.int (2 : Int32))] ∧ Z.Warmed39 U.vm ∧ U.heap = h0) (fun _ _ _ _ _ => True) (fun _ U o U' => ∃ v L, o = .returned v ∧ Qcm2_2 Z a1 c0 c1 h0 n0 v U'.heap L ∧ FrameEnd U o U' L ({ frames := 1, cells := 1, slots := 2, locals := 18 } : Room).cells ({ frames := 1, cells := 1, slots := 2, locals := 18 } : Room).slots) := by
  have W := @own_wd Z a0 hw
  refine MetFree.of_bodySF (plainFor_of_name pn_6) hisR ?_
  intro p e s m args below meth c s₁ Bd hml0 hP hK
  obtain ⟨rfl, hZ, hh⟩ := hP
  have hx := Bd.exec
  have hby := Bd.bytes
  have hlk : meth.locks = false := BodyLoose.notSynchronized Bd
  have hml : c.maxLocals = 6 := hml0
  have hown : s.vm.findClass "java/lang/StringUTF16" = some m.cls := findClass_of_methodNamed Bd.named
  have hnm := (name_of_methodNamed Bd.named Bd.method).1
  have X0 : Stand p l e ({ frames := 1, cells := 1, slots := 2, locals := 18 } : Room) s m #[(.ref a1), (.int (0 : Int32)), (.int (2 : Int32))] below meth c s₁ [] 0 0 := Stand.of_body Bd
  have e0 : s₁.heap = h0 := by rw [← hh, Bd.state]; rfl
  have N0 := Fr.nil n0
  show Gl p.tables e below _ _
  refine Gl.pre (fun t k => castTop (ef_cm2_2 m a1 c0 c1) k) ?_
  refine Gl.gen (fun PP hPP => ?_)
  have K0 : Keep h0 h0 [] := Keep.refl h0 _
  show Gl p.tables e below PP (s₁.setTop (mkF m 0 #[.val (.ref a1), .val (.int (0 : Int32)), .val (.int (2 : Int32)), .unset, .unset, .unset] []))
  refine Y.iloadN X0 hx (hb hby d6_0) rfl ?_
  obtain ⟨T1, h1, k1, X1, e1, E1, A1, B1, st1⟩ := newPE X0 hx hZ (W 28 rfl) e0 (g := (mkF m 1 #[.val (.ref a1), .val (.int (0 : Int32)), .val (.int (2 : Int32)), .unset, .unset, .unset] [(.int (2 : Int32))])) rfl (hb hby d6_1) rfl (by decide) (cap := 2) (by decide) (by decide) (by decide) (by decide) (ad := "[B") (by first | rfl | decide | decide +kernel)
  obtain ⟨b1, g1⟩ : ∃ z, z = h0.size := ⟨_, rfl⟩
  rw [← g1] at A1 B1 st1
  refine Gl.pre (fun _ k => st1 _ k) ?_
  have own_ne_a1_b1 : a1 ≠ b1 := by have q := V_a1.lt; rw [g1]; exact Nat.ne_of_lt q
  have own_ne_b1_a1 : b1 ≠ a1 := own_ne_a1_b1.symm
  have g_b1 : n0 ≤ b1 := Nat.le_trans Z0 (Nat.le_of_eq g1.symm)
  have sz_b1 : h0.size ≤ b1 := Nat.le_trans K0.1 (Nat.le_of_eq g1.symm)
  have V_a1 := V_a1.ext E1
  have Z1 : n0 ≤ h1.size := Nat.le_trans Z0 E1.1
  have K1 := K0.ext E1
  have V_b1 : Bal Z h1 b1 .byte [(0 : Int32), (0 : Int32)] := Bal.new (ty := .byte) A1 (n := 2) (by decide) rfl
  have E_b1 := B1
  refine Y.astoreN X1 hx (hb hby d6_3) rfl rfl (l' := #[.val (.ref a1), .val (.int (0 : Int32)), .val (.int (2 : Int32)), .val (.ref b1), .unset, .unset]) rfl ?_
  refine Y.aloadN X1 hx (hb hby d6_4) rfl rfl ?_
  refine Y.iloadN X1 hx (hb hby d6_5) rfl ?_
  refine Y.aloadN X1 hx (hb hby d6_6) rfl rfl ?_
  refine Y.iconst X1 hx (hb hby d6_7) ?_
  refine Y.iloadN X1 hx (hb hby d6_8) rfl ?_
  obtain ⟨_, _, ⟨T2, L2, k2, n2⟩, -, X2, ⟨Lc2, hQ2, l2, y2, z2⟩, st2⟩ := Jvm.LawKit.callS X1 hx (y := (⟨"java/lang/StringUTF16", "compress", "([CI[BII)I"⟩ : MethodName)) hown (mvT hZ (W 29 rfl)) (mvT hZ (W 30 rfl)) (mvT hZ (W 26 rfl)) (mvT hZ (W 31 rfl)) (by decide) (backOf (W := 0) (rmcz2_2 l Z a0 hw [] a1 b1 c0 c1 h1 n0 Z1 V_a1 V_b1 g_b1 own_ne_a1_b1 own_ne_b1_a1 hc0 hc1) hZ (W 31 rfl) (W 26 rfl) (by decide) (by decide)) (g := (mkF m 9 #[.val (.ref a1), .val (.int (0 : Int32)), .val (.int (2 : Int32)), .val (.ref b1), .unset, .unset] [(.int (2 : Int32)), (.int (0 : Int32)), (.ref b1), (.int (0 : Int32)), (.ref a1)])) rfl (by rw [hml]; rfl) (argsL := [(.ref a1), (.int (0 : Int32)), (.ref b1), (.int (0 : Int32)), (.int (2 : Int32))]) (rest := []) (lenOf pd_3 rfl) rfl (by show 2 * 0 + _ ≤ _; exact Nat.le_of_eq rfl) (hb hby d6_9) (fun _ _ => ⟨rfl, e1, (by decide : 1 + 0 ≤ _), (by decide : 2 + 0 ≤ _)⟩)
  dsimp only [Pt.U, Pt.locs, Pt.cells, Pt.slots] at X2 l2 y2 z2 st2 hQ2
  subst l2 y2 z2
  obtain ⟨rfl, N2q, K2, V2q⟩ := hQ2
  have N2 := Fr.app N0 N2q
  refine Gl.pre (fun _ k => st2 _ k) ?_
  have V_a1 := V_a1.keep K2 (ninS (own_ne_a1_b1) nin0)
  have E_b1 := E_b1.keep K2
  have Z2 : n0 ≤ T2.heap.size := Nat.le_trans Z1 K2.1
  have K2k := K1.trans K2 (allS (Or.inr sz_b1) all0)
  have V_b1 := V2q
  refine Y.istore X2 hx (hb hby d6_12) rfl (l' := #[.val (.ref a1), .val (.int (0 : Int32)), .val (.int (2 : Int32)), .val (.ref b1), .val (.int (2 : Int32)), .unset]) rfl ?_
  refine Y.iload X2 hx (hb hby d6_14) rfl ?_
  refine Y.iloadN X2 hx (hb hby d6_16) rfl ?_
  refine Y.icmpYes X2 hx (pc0 := 17) (pc' := 57) rfl (hb hby d6_17) rfl (teq (show (2 : Int32) = (2 : Int32) from (by decide))).1 (by decide) (by decide) ?_
  refine Y.aloadN X2 hx (hb hby d6_57) rfl rfl ?_
  rw [hPP]
  refine own_finA (Q := (Qcm2_2 Z a1 c0 c1 h0 n0)) X2 hx hlk Bd.returns rfl rfl (hb hby d6_58) ?_ (by decide) (by decide)
  show Qcm2_2 Z a1 c0 c1 h0 n0 _ T2.heap _
  exact ⟨b1, rfl, N2, sz_b1, K2k, V_b1, E_b1⟩
theorem ef_cm2_0 (m : MethodId) (a1 : Addr) (c0 : Int32) (c1 : Int32) : entryFrame m #[(.ref a1), (.int (0 : Int32)), (.int (2 : Int32))] 6 = mkF m 0 #[.val (.ref a1), .val (.int (0 : Int32)), .val (.int (2 : Int32)), .unset, .unset, .unset] [] := by first | (simp [entryFrame, mkF, argsToLocals, Value.category]; done) | rfl
def Qcm2_0 (Z : State) (a1 : Addr) (c0 : Int32) (c1 : Int32) (h0 : Heap) (n0 : Nat) (v : Option Value) (h : Heap) (L : List Loc) : Prop := ∃ b : Addr, v = some (.ref b) ∧ Fr n0 L ∧ h0.size ≤ b ∧ Keep h0 h [] ∧ Bal Z h b .byte [(nar .byte ((c0 >>> ((0 : Int32) &&& 31)).toInt8.toInt32)), (nar .byte ((c0 >>> ((8 : Int32) &&& 31)).toInt8.toInt32)), (nar .byte ((c1 >>> ((0 : Int32) &&& 31)).toInt8.toInt32)), (nar .byte ((c1 >>> ((8 : Int32) &&& 31)).toInt8.toInt32))] ∧ Exa Z h b "[B"
set_option maxRecDepth 65536 in
set_option maxHeartbeats 40000000 in
theorem rmcm2_0 (l : Launch) (Z : State) (a0 : Array Value) (hw : ∀ d ∈ tables_1, d.before a0 Z = true) (ws : List Jvm.Cond) (a1 : Addr) (c0 : Int32) (c1 : Int32) (h0 : Heap) (n0 : Nat) (Z0 : n0 ≤ h0.size) (V_a1 : Bal Z h0 a1 .char [c0, c1]) (hr0 : 0 ≤ c0.toInt ∧ c0.toInt < 65536) (hr1 : 0 ≤ c1.toInt ∧ c1.toInt < 65536) (hc0 : (255 : Int32) < c0) (SAD : Sta Z Z.heap "java/lang/StringUTF16" "$assertionsDisabled" "Z" (.int (1 : Int32))) (SHI : Sta Z Z.heap "java/lang/StringUTF16" "HI_BYTE_SHIFT" "I" (.int (0 : Int32))) (SLO : Sta Z Z.heap "java/lang/StringUTF16" "LO_BYTE_SHIFT" "I" (.int (8 : Int32))) (O_ : Old Z n0 h0) :
    MetFree l (⟨"java/lang/StringUTF16", "compress", "([CII)[B"⟩ : MethodName) (head1 (Jvm.Cond.code (⟨"java/lang/StringUTF16", "compress", "([CII)[B"⟩ : MethodName) jdk_52_method_16_code 6 (some (.array .byte)) :: ws) ({ frames := 3, cells := 2, slots := 6, locals := 40 } : Room)) (fun a U => a = #[(.ref a1), (.int (0 : Int32)), (.int (2 : Int32))] ∧ Z.Warmed39 U.vm ∧ U.heap = h0) (fun _ _ _ _ _ => True) (fun _ U o U' => ∃ v L, o = .returned v ∧ Qcm2_0 Z a1 c0 c1 h0 n0 v U'.heap L ∧ FrameEnd U o U' L ({ frames := 3, cells := 2, slots := 6, locals := 40 } : Room).cells ({ frames := 3, cells := 2, slots := 6, locals := 40 } : Room).slots) := by
  have W := @own_wd Z a0 hw
  refine MetFree.of_bodySF (plainFor_of_name pn_6) hisR ?_
  intro p e s m args below meth c s₁ Bd hml0 hP hK
  obtain ⟨rfl, hZ, hh⟩ := hP
  have hx := Bd.exec
  have hby := Bd.bytes
  have hlk : meth.locks = false := BodyLoose.notSynchronized Bd
  have hml : c.maxLocals = 6 := hml0
  have hown : s.vm.findClass "java/lang/StringUTF16" = some m.cls := findClass_of_methodNamed Bd.named
  have hnm := (name_of_methodNamed Bd.named Bd.method).1
  have X0 : Stand p l e ({ frames := 3, cells := 2, slots := 6, locals := 40 } : Room) s m #[(.ref a1), (.int (0 : Int32)), (.int (2 : Int32))] below meth c s₁ [] 0 0 := Stand.of_body Bd
  have e0 : s₁.heap = h0 := by rw [← hh, Bd.state]; rfl
  have N0 := Fr.nil n0
  show Gl p.tables e below _ _
  refine Gl.pre (fun t k => castTop (ef_cm2_0 m a1 c0 c1) k) ?_
  refine Gl.gen (fun PP hPP => ?_)
  have K0 : Keep h0 h0 [] := Keep.refl h0 _
  show Gl p.tables e below PP (s₁.setTop (mkF m 0 #[.val (.ref a1), .val (.int (0 : Int32)), .val (.int (2 : Int32)), .unset, .unset, .unset] []))
  refine Y.iloadN X0 hx (hb hby d6_0) rfl ?_
  obtain ⟨T1, h1, k1, X1, e1, E1, A1, st1⟩ := newP X0 hx hZ (W 28 rfl) e0 (g := (mkF m 1 #[.val (.ref a1), .val (.int (0 : Int32)), .val (.int (2 : Int32)), .unset, .unset, .unset] [(.int (2 : Int32))])) rfl (hb hby d6_1) rfl (by decide) (cap := 2) (by decide) (by decide) (by decide) (by decide)
  obtain ⟨b1, g1⟩ : ∃ z, z = h0.size := ⟨_, rfl⟩
  rw [← g1] at A1 st1
  refine Gl.pre (fun _ k => st1 _ k) ?_
  have own_ne_a1_b1 : a1 ≠ b1 := by have q := V_a1.lt; rw [g1]; exact Nat.ne_of_lt q
  have own_ne_b1_a1 : b1 ≠ a1 := own_ne_a1_b1.symm
  have g_b1 : n0 ≤ b1 := Nat.le_trans Z0 (Nat.le_of_eq g1.symm)
  have sz_b1 : h0.size ≤ b1 := Nat.le_trans K0.1 (Nat.le_of_eq g1.symm)
  have V_a1 := V_a1.ext E1
  have O_ := O_.ext E1
  have Z1 : n0 ≤ h1.size := Nat.le_trans Z0 E1.1
  have K1 := K0.ext E1
  have V_b1 : Bal Z h1 b1 .byte [(0 : Int32), (0 : Int32)] := Bal.new (ty := .byte) A1 (n := 2) (by decide) rfl
  refine Y.astoreN X1 hx (hb hby d6_3) rfl rfl (l' := #[.val (.ref a1), .val (.int (0 : Int32)), .val (.int (2 : Int32)), .val (.ref b1), .unset, .unset]) rfl ?_
  refine Y.aloadN X1 hx (hb hby d6_4) rfl rfl ?_
  refine Y.iloadN X1 hx (hb hby d6_5) rfl ?_
  refine Y.aloadN X1 hx (hb hby d6_6) rfl rfl ?_
  refine Y.iconst X1 hx (hb hby d6_7) ?_
  refine Y.iloadN X1 hx (hb hby d6_8) rfl ?_
  obtain ⟨_, _, ⟨T2, L2, k2, n2⟩, -, X2, ⟨Lc2, hQ2, l2, y2, z2⟩, st2⟩ := Jvm.LawKit.callS X1 hx (y := (⟨"java/lang/StringUTF16", "compress", "([CI[BII)I"⟩ : MethodName)) hown (mvT hZ (W 29 rfl)) (mvT hZ (W 30 rfl)) (mvT hZ (W 26 rfl)) (mvT hZ (W 31 rfl)) (by decide) (backOf (W := 0) (rmcz2_0 l Z a0 hw [] a1 b1 c0 c1 h1 n0 Z1 V_a1 V_b1 g_b1 own_ne_a1_b1 own_ne_b1_a1 hc0) hZ (W 31 rfl) (W 26 rfl) (by decide) (by decide)) (g := (mkF m 9 #[.val (.ref a1), .val (.int (0 : Int32)), .val (.int (2 : Int32)), .val (.ref b1), .unset, .unset] [(.int (2 : Int32)), (.int (0 : Int32)), (.ref b1), (.int (0 : Int32)), (.ref a1)])) rfl (by rw [hml]; rfl) (argsL := [(.ref a1), (.int (0 : Int32)), (.ref b1), (.int (0 : Int32)), (.int (2 : Int32))]) (rest := []) (lenOf pd_3 rfl) rfl (by show 2 * 0 + _ ≤ _; exact Nat.le_of_eq rfl) (hb hby d6_9) (fun _ _ => ⟨rfl, e1, (by decide : 1 + 0 ≤ _), (by decide : 2 + 0 ≤ _)⟩)
  dsimp only [Pt.U, Pt.locs, Pt.cells, Pt.slots] at X2 l2 y2 z2 st2 hQ2
  subst l2 y2 z2
  obtain ⟨rfl, N2q, K2⟩ := hQ2
  have N2 := Fr.app N0 N2q
  refine Gl.pre (fun _ k => st2 _ k) ?_
  have V_a1 := V_a1.keep K2 (ninS (own_ne_a1_b1) nin0)
  have O_ := O_.keep K2 (allS g_b1 all0)
  have Z2 : n0 ≤ T2.heap.size := Nat.le_trans Z1 K2.1
  have K2k := K1.trans K2 (allS (Or.inr sz_b1) all0)
  refine Y.istore X2 hx (hb hby d6_12) rfl (l' := #[.val (.ref a1), .val (.int (0 : Int32)), .val (.int (2 : Int32)), .val (.ref b1), .val (.int (0 : Int32)), .unset]) rfl ?_
  refine Y.iload X2 hx (hb hby d6_14) rfl ?_
  refine Y.iloadN X2 hx (hb hby d6_16) rfl ?_
  refine Y.icmpNo X2 hx (hb hby d6_17) rfl (feq (show ¬ ((0 : Int32) = (2 : Int32)) from (by decide))).1 ?_
  refine Y.aloadN X2 hx (hb hby d6_20) rfl rfl ?_
  refine Y.iloadN X2 hx (hb hby d6_21) rfl ?_
  refine Y.iloadN X2 hx (hb hby d6_22) rfl ?_
  obtain ⟨_, _, ⟨T3, L3, k3, n3⟩, -, X3, ⟨Lc3, hQ3, l3, y3, z3⟩, st3⟩ := Jvm.LawKit.callS X2 hx (y := (⟨"java/lang/StringUTF16", "toBytes", "([CII)[B"⟩ : MethodName)) hown (mvT hZ (W 105 rfl)) (mvT hZ (W 106 rfl)) (mvT hZ (W 26 rfl)) (mvT hZ (W 107 rfl)) (by decide) (backOf (W := 0) (rmtb2 l Z a0 hw [] a1 c0 c1 T2.heap n0 Z2 V_a1 SAD SHI SLO O_) hZ (W 107 rfl) (W 26 rfl) (by decide) (by decide)) (g := (mkF m 23 #[.val (.ref a1), .val (.int (0 : Int32)), .val (.int (2 : Int32)), .val (.ref b1), .val (.int (0 : Int32)), .unset] [(.int (2 : Int32)), (.int (0 : Int32)), (.ref a1)])) rfl (by rw [hml]; rfl) (argsL := [(.ref a1), (.int (0 : Int32)), (.int (2 : Int32))]) (rest := []) (lenOf pd_4 rfl) rfl (by show 2 * 0 + _ ≤ _; exact Nat.le_of_eq rfl) (hb hby d6_23) (fun _ _ => ⟨rfl, rfl, (by decide : 1 + 1 ≤ _), (by decide : 2 + 4 ≤ _)⟩)
  dsimp only [Pt.U, Pt.locs, Pt.cells, Pt.slots] at X3 l3 y3 z3 st3 hQ3
  subst l3 y3 z3
  obtain ⟨bt3, rfl, N3q, hz3, K3, V3q, Eb3⟩ := hQ3
  have N3 := Fr.app N2 N3q
  refine Gl.pre (fun _ k => st3 _ k) ?_
  have own_ne_a1_bt3 : a1 ≠ bt3 := Nat.ne_of_lt (Nat.lt_of_lt_of_le V_a1.lt hz3)
  have own_ne_bt3_a1 := own_ne_a1_bt3.symm
  have g_bt3 : n0 ≤ bt3 := Nat.le_trans Z2 hz3
  have sz_bt3 : h0.size ≤ bt3 := Nat.le_trans K2k.1 hz3
  have V_a1 := V_a1.keep K3 nin0
  have O_ := O_.keep K3 all0
  have Z3 : n0 ≤ T3.heap.size := Nat.le_trans Z2 K3.1
  have K3k := K2k.trans K3 all0
  have V_bt3 := V3q
  have E_bt3 := Eb3
  refine Y.astore X3 hx (hb hby d6_26) rfl rfl (l' := #[.val (.ref a1), .val (.int (0 : Int32)), .val (.int (2 : Int32)), .val (.ref b1), .val (.int (0 : Int32)), .val (.ref bt3)]) rfl ?_
  refine Y.aload X3 hx (hb hby d6_28) rfl rfl ?_
  refine Y.iload X3 hx (hb hby d6_30) rfl ?_
  obtain ⟨_, _, ⟨T4, L4, k4, n4⟩, -, X4, ⟨Lc4, hQ4, l4, y4, z4⟩, st4⟩ := Jvm.LawKit.callS X3 hx (y := (⟨"java/lang/StringUTF16", "getChar", "([BI)C"⟩ : MethodName)) hown (mvT hZ (W 115 rfl)) (mvT hZ (W 116 rfl)) (mvT hZ (W 26 rfl)) (mvT hZ (W 117 rfl)) (by decide) (backOf (W := 0) (rmgc2_0 l Z a0 hw [] bt3 (nar .byte ((c0 >>> ((0 : Int32) &&& 31)).toInt8.toInt32)) (nar .byte ((c0 >>> ((8 : Int32) &&& 31)).toInt8.toInt32)) (nar .byte ((c1 >>> ((0 : Int32) &&& 31)).toInt8.toInt32)) (nar .byte ((c1 >>> ((8 : Int32) &&& 31)).toInt8.toInt32)) T3.heap n0 Z3 V_bt3 SAD SHI SLO O_) hZ (W 117 rfl) (W 26 rfl) (by decide) (by decide)) (g := (mkF m 32 #[.val (.ref a1), .val (.int (0 : Int32)), .val (.int (2 : Int32)), .val (.ref b1), .val (.int (0 : Int32)), .val (.ref bt3)] [(.int (0 : Int32)), (.ref bt3)])) rfl (by rw [hml]; rfl) (argsL := [(.ref bt3), (.int (0 : Int32))]) (rest := []) (lenOf pd_5 rfl) rfl (by show 2 * 0 + _ ≤ _; exact Nat.le_of_eq rfl) (hb hby d6_32) (fun _ _ => ⟨rfl, rfl, (by decide : 2 + 0 ≤ _), (by decide : 6 + 0 ≤ _)⟩)
  dsimp only [Pt.U, Pt.locs, Pt.cells, Pt.slots] at X4 l4 y4 z4 st4 hQ4
  subst l4 y4 z4
  obtain ⟨rfl, N4q, e4⟩ := hQ4
  have N4 := Fr.app N3 N4q
  refine Gl.pre (fun _ k => st4 _ k) ?_
  refine Y.sipush X4 hx (hb hby d6_35) ?_
  refine Y.icmpYes X4 hx (pc0 := 38) (pc' := 54) rfl (hb hby d6_38) rfl (tlt (show (255 : Int32) < (nar .char (((((nar .byte ((c0 >>> ((0 : Int32) &&& 31)).toInt8.toInt32)) &&& (255 : Int32)) <<< ((0 : Int32) &&& 31)) ||| (((nar .byte ((c0 >>> ((8 : Int32) &&& 31)).toInt8.toInt32)) &&& (255 : Int32)) <<< ((8 : Int32) &&& 31))).toUInt32.toUInt16.toUInt32.toInt32)) from (by rw [own_gc c0 hr0.1 hr0.2]; exact hc0))).2.2.1 (by decide) (by decide) ?_
  refine Y.aload X4 hx (hb hby d6_54) rfl rfl ?_
  rw [hPP]
  refine own_finA (Q := (Qcm2_0 Z a1 c0 c1 h0 n0)) X4 hx hlk Bd.returns rfl rfl (hb hby d6_56) ?_ (by decide) (by decide)
  show Qcm2_0 Z a1 c0 c1 h0 n0 _ T4.heap _
  rw [e4]
  exact ⟨bt3, rfl, N4, sz_bt3, K3k, V_bt3, E_bt3⟩
theorem ef_cm2_1 (m : MethodId) (a1 : Addr) (c0 : Int32) (c1 : Int32) : entryFrame m #[(.ref a1), (.int (0 : Int32)), (.int (2 : Int32))] 6 = mkF m 0 #[.val (.ref a1), .val (.int (0 : Int32)), .val (.int (2 : Int32)), .unset, .unset, .unset] [] := by first | (simp [entryFrame, mkF, argsToLocals, Value.category]; done) | rfl
def Qcm2_1 (Z : State) (a1 : Addr) (c0 : Int32) (c1 : Int32) (h0 : Heap) (n0 : Nat) (v : Option Value) (h : Heap) (L : List Loc) : Prop := ∃ b : Addr, v = some (.ref b) ∧ Fr n0 L ∧ h0.size ≤ b ∧ Keep h0 h [] ∧ Bal Z h b .byte [(nar .byte ((c0 >>> ((0 : Int32) &&& 31)).toInt8.toInt32)), (nar .byte ((c0 >>> ((8 : Int32) &&& 31)).toInt8.toInt32)), (nar .byte ((c1 >>> ((0 : Int32) &&& 31)).toInt8.toInt32)), (nar .byte ((c1 >>> ((8 : Int32) &&& 31)).toInt8.toInt32))] ∧ Exa Z h b "[B"
set_option maxRecDepth 65536 in
set_option maxHeartbeats 40000000 in
theorem rmcm2_1 (l : Launch) (Z : State) (a0 : Array Value) (hw : ∀ d ∈ tables_1, d.before a0 Z = true) (ws : List Jvm.Cond) (a1 : Addr) (c0 : Int32) (c1 : Int32) (h0 : Heap) (n0 : Nat) (Z0 : n0 ≤ h0.size) (V_a1 : Bal Z h0 a1 .char [c0, c1]) (hr0 : 0 ≤ c0.toInt ∧ c0.toInt < 65536) (hr1 : 0 ≤ c1.toInt ∧ c1.toInt < 65536) (hc0 : ¬ ((255 : Int32) < c0)) (hc1 : (255 : Int32) < c1) (SAD : Sta Z Z.heap "java/lang/StringUTF16" "$assertionsDisabled" "Z" (.int (1 : Int32))) (SHI : Sta Z Z.heap "java/lang/StringUTF16" "HI_BYTE_SHIFT" "I" (.int (0 : Int32))) (SLO : Sta Z Z.heap "java/lang/StringUTF16" "LO_BYTE_SHIFT" "I" (.int (8 : Int32))) (O_ : Old Z n0 h0) :
    MetFree l (⟨"java/lang/StringUTF16", "compress", "([CII)[B"⟩ : MethodName) (head1 (Jvm.Cond.code (⟨"java/lang/StringUTF16", "compress", "([CII)[B"⟩ : MethodName) jdk_52_method_16_code 6 (some (.array .byte)) :: ws) ({ frames := 3, cells := 2, slots := 6, locals := 40 } : Room)) (fun a U => a = #[(.ref a1), (.int (0 : Int32)), (.int (2 : Int32))] ∧ Z.Warmed39 U.vm ∧ U.heap = h0) (fun _ _ _ _ _ => True) (fun _ U o U' => ∃ v L, o = .returned v ∧ Qcm2_1 Z a1 c0 c1 h0 n0 v U'.heap L ∧ FrameEnd U o U' L ({ frames := 3, cells := 2, slots := 6, locals := 40 } : Room).cells ({ frames := 3, cells := 2, slots := 6, locals := 40 } : Room).slots) := by
  have W := @own_wd Z a0 hw
  refine MetFree.of_bodySF (plainFor_of_name pn_6) hisR ?_
  intro p e s m args below meth c s₁ Bd hml0 hP hK
  obtain ⟨rfl, hZ, hh⟩ := hP
  have hx := Bd.exec
  have hby := Bd.bytes
  have hlk : meth.locks = false := BodyLoose.notSynchronized Bd
  have hml : c.maxLocals = 6 := hml0
  have hown : s.vm.findClass "java/lang/StringUTF16" = some m.cls := findClass_of_methodNamed Bd.named
  have hnm := (name_of_methodNamed Bd.named Bd.method).1
  have X0 : Stand p l e ({ frames := 3, cells := 2, slots := 6, locals := 40 } : Room) s m #[(.ref a1), (.int (0 : Int32)), (.int (2 : Int32))] below meth c s₁ [] 0 0 := Stand.of_body Bd
  have e0 : s₁.heap = h0 := by rw [← hh, Bd.state]; rfl
  have N0 := Fr.nil n0
  show Gl p.tables e below _ _
  refine Gl.pre (fun t k => castTop (ef_cm2_1 m a1 c0 c1) k) ?_
  refine Gl.gen (fun PP hPP => ?_)
  have K0 : Keep h0 h0 [] := Keep.refl h0 _
  show Gl p.tables e below PP (s₁.setTop (mkF m 0 #[.val (.ref a1), .val (.int (0 : Int32)), .val (.int (2 : Int32)), .unset, .unset, .unset] []))
  refine Y.iloadN X0 hx (hb hby d6_0) rfl ?_
  obtain ⟨T1, h1, k1, X1, e1, E1, A1, st1⟩ := newP X0 hx hZ (W 28 rfl) e0 (g := (mkF m 1 #[.val (.ref a1), .val (.int (0 : Int32)), .val (.int (2 : Int32)), .unset, .unset, .unset] [(.int (2 : Int32))])) rfl (hb hby d6_1) rfl (by decide) (cap := 2) (by decide) (by decide) (by decide) (by decide)
  obtain ⟨b1, g1⟩ : ∃ z, z = h0.size := ⟨_, rfl⟩
  rw [← g1] at A1 st1
  refine Gl.pre (fun _ k => st1 _ k) ?_
  have own_ne_a1_b1 : a1 ≠ b1 := by have q := V_a1.lt; rw [g1]; exact Nat.ne_of_lt q
  have own_ne_b1_a1 : b1 ≠ a1 := own_ne_a1_b1.symm
  have g_b1 : n0 ≤ b1 := Nat.le_trans Z0 (Nat.le_of_eq g1.symm)
  have sz_b1 : h0.size ≤ b1 := Nat.le_trans K0.1 (Nat.le_of_eq g1.symm)
  have V_a1 := V_a1.ext E1
  have O_ := O_.ext E1
  have Z1 : n0 ≤ h1.size := Nat.le_trans Z0 E1.1
  have K1 := K0.ext E1
  have V_b1 : Bal Z h1 b1 .byte [(0 : Int32), (0 : Int32)] := Bal.new (ty := .byte) A1 (n := 2) (by decide) rfl
  refine Y.astoreN X1 hx (hb hby d6_3) rfl rfl (l' := #[.val (.ref a1), .val (.int (0 : Int32)), .val (.int (2 : Int32)), .val (.ref b1), .unset, .unset]) rfl ?_
  refine Y.aloadN X1 hx (hb hby d6_4) rfl rfl ?_
  refine Y.iloadN X1 hx (hb hby d6_5) rfl ?_
  refine Y.aloadN X1 hx (hb hby d6_6) rfl rfl ?_
  refine Y.iconst X1 hx (hb hby d6_7) ?_
  refine Y.iloadN X1 hx (hb hby d6_8) rfl ?_
  obtain ⟨_, _, ⟨T2, L2, k2, n2⟩, -, X2, ⟨Lc2, hQ2, l2, y2, z2⟩, st2⟩ := Jvm.LawKit.callS X1 hx (y := (⟨"java/lang/StringUTF16", "compress", "([CI[BII)I"⟩ : MethodName)) hown (mvT hZ (W 29 rfl)) (mvT hZ (W 30 rfl)) (mvT hZ (W 26 rfl)) (mvT hZ (W 31 rfl)) (by decide) (backOf (W := 0) (rmcz2_1 l Z a0 hw [] a1 b1 c0 c1 h1 n0 Z1 V_a1 V_b1 g_b1 own_ne_a1_b1 own_ne_b1_a1 hc0 hc1) hZ (W 31 rfl) (W 26 rfl) (by decide) (by decide)) (g := (mkF m 9 #[.val (.ref a1), .val (.int (0 : Int32)), .val (.int (2 : Int32)), .val (.ref b1), .unset, .unset] [(.int (2 : Int32)), (.int (0 : Int32)), (.ref b1), (.int (0 : Int32)), (.ref a1)])) rfl (by rw [hml]; rfl) (argsL := [(.ref a1), (.int (0 : Int32)), (.ref b1), (.int (0 : Int32)), (.int (2 : Int32))]) (rest := []) (lenOf pd_3 rfl) rfl (by show 2 * 0 + _ ≤ _; exact Nat.le_of_eq rfl) (hb hby d6_9) (fun _ _ => ⟨rfl, e1, (by decide : 1 + 0 ≤ _), (by decide : 2 + 0 ≤ _)⟩)
  dsimp only [Pt.U, Pt.locs, Pt.cells, Pt.slots] at X2 l2 y2 z2 st2 hQ2
  subst l2 y2 z2
  obtain ⟨rfl, N2q, K2⟩ := hQ2
  have N2 := Fr.app N0 N2q
  refine Gl.pre (fun _ k => st2 _ k) ?_
  have V_a1 := V_a1.keep K2 (ninS (own_ne_a1_b1) nin0)
  have O_ := O_.keep K2 (allS g_b1 all0)
  have Z2 : n0 ≤ T2.heap.size := Nat.le_trans Z1 K2.1
  have K2k := K1.trans K2 (allS (Or.inr sz_b1) all0)
  refine Y.istore X2 hx (hb hby d6_12) rfl (l' := #[.val (.ref a1), .val (.int (0 : Int32)), .val (.int (2 : Int32)), .val (.ref b1), .val (.int (1 : Int32)), .unset]) rfl ?_
  refine Y.iload X2 hx (hb hby d6_14) rfl ?_
  refine Y.iloadN X2 hx (hb hby d6_16) rfl ?_
  refine Y.icmpNo X2 hx (hb hby d6_17) rfl (feq (show ¬ ((1 : Int32) = (2 : Int32)) from (by decide))).1 ?_
  refine Y.aloadN X2 hx (hb hby d6_20) rfl rfl ?_
  refine Y.iloadN X2 hx (hb hby d6_21) rfl ?_
  refine Y.iloadN X2 hx (hb hby d6_22) rfl ?_
  obtain ⟨_, _, ⟨T3, L3, k3, n3⟩, -, X3, ⟨Lc3, hQ3, l3, y3, z3⟩, st3⟩ := Jvm.LawKit.callS X2 hx (y := (⟨"java/lang/StringUTF16", "toBytes", "([CII)[B"⟩ : MethodName)) hown (mvT hZ (W 105 rfl)) (mvT hZ (W 106 rfl)) (mvT hZ (W 26 rfl)) (mvT hZ (W 107 rfl)) (by decide) (backOf (W := 0) (rmtb2 l Z a0 hw [] a1 c0 c1 T2.heap n0 Z2 V_a1 SAD SHI SLO O_) hZ (W 107 rfl) (W 26 rfl) (by decide) (by decide)) (g := (mkF m 23 #[.val (.ref a1), .val (.int (0 : Int32)), .val (.int (2 : Int32)), .val (.ref b1), .val (.int (1 : Int32)), .unset] [(.int (2 : Int32)), (.int (0 : Int32)), (.ref a1)])) rfl (by rw [hml]; rfl) (argsL := [(.ref a1), (.int (0 : Int32)), (.int (2 : Int32))]) (rest := []) (lenOf pd_4 rfl) rfl (by show 2 * 0 + _ ≤ _; exact Nat.le_of_eq rfl) (hb hby d6_23) (fun _ _ => ⟨rfl, rfl, (by decide : 1 + 1 ≤ _), (by decide : 2 + 4 ≤ _)⟩)
  dsimp only [Pt.U, Pt.locs, Pt.cells, Pt.slots] at X3 l3 y3 z3 st3 hQ3
  subst l3 y3 z3
  obtain ⟨bt3, rfl, N3q, hz3, K3, V3q, Eb3⟩ := hQ3
  have N3 := Fr.app N2 N3q
  refine Gl.pre (fun _ k => st3 _ k) ?_
  have own_ne_a1_bt3 : a1 ≠ bt3 := Nat.ne_of_lt (Nat.lt_of_lt_of_le V_a1.lt hz3)
  have own_ne_bt3_a1 := own_ne_a1_bt3.symm
  have g_bt3 : n0 ≤ bt3 := Nat.le_trans Z2 hz3
  have sz_bt3 : h0.size ≤ bt3 := Nat.le_trans K2k.1 hz3
  have V_a1 := V_a1.keep K3 nin0
  have O_ := O_.keep K3 all0
  have Z3 : n0 ≤ T3.heap.size := Nat.le_trans Z2 K3.1
  have K3k := K2k.trans K3 all0
  have V_bt3 := V3q
  have E_bt3 := Eb3
  refine Y.astore X3 hx (hb hby d6_26) rfl rfl (l' := #[.val (.ref a1), .val (.int (0 : Int32)), .val (.int (2 : Int32)), .val (.ref b1), .val (.int (1 : Int32)), .val (.ref bt3)]) rfl ?_
  refine Y.aload X3 hx (hb hby d6_28) rfl rfl ?_
  refine Y.iload X3 hx (hb hby d6_30) rfl ?_
  obtain ⟨_, _, ⟨T4, L4, k4, n4⟩, -, X4, ⟨Lc4, hQ4, l4, y4, z4⟩, st4⟩ := Jvm.LawKit.callS X3 hx (y := (⟨"java/lang/StringUTF16", "getChar", "([BI)C"⟩ : MethodName)) hown (mvT hZ (W 115 rfl)) (mvT hZ (W 116 rfl)) (mvT hZ (W 26 rfl)) (mvT hZ (W 117 rfl)) (by decide) (backOf (W := 0) (rmgc2_1 l Z a0 hw [] bt3 (nar .byte ((c0 >>> ((0 : Int32) &&& 31)).toInt8.toInt32)) (nar .byte ((c0 >>> ((8 : Int32) &&& 31)).toInt8.toInt32)) (nar .byte ((c1 >>> ((0 : Int32) &&& 31)).toInt8.toInt32)) (nar .byte ((c1 >>> ((8 : Int32) &&& 31)).toInt8.toInt32)) T3.heap n0 Z3 V_bt3 SAD SHI SLO O_) hZ (W 117 rfl) (W 26 rfl) (by decide) (by decide)) (g := (mkF m 32 #[.val (.ref a1), .val (.int (0 : Int32)), .val (.int (2 : Int32)), .val (.ref b1), .val (.int (1 : Int32)), .val (.ref bt3)] [(.int (1 : Int32)), (.ref bt3)])) rfl (by rw [hml]; rfl) (argsL := [(.ref bt3), (.int (1 : Int32))]) (rest := []) (lenOf pd_5 rfl) rfl (by show 2 * 0 + _ ≤ _; exact Nat.le_of_eq rfl) (hb hby d6_32) (fun _ _ => ⟨rfl, rfl, (by decide : 2 + 0 ≤ _), (by decide : 6 + 0 ≤ _)⟩)
  dsimp only [Pt.U, Pt.locs, Pt.cells, Pt.slots] at X4 l4 y4 z4 st4 hQ4
  subst l4 y4 z4
  obtain ⟨rfl, N4q, e4⟩ := hQ4
  have N4 := Fr.app N3 N4q
  refine Gl.pre (fun _ k => st4 _ k) ?_
  refine Y.sipush X4 hx (hb hby d6_35) ?_
  refine Y.icmpYes X4 hx (pc0 := 38) (pc' := 54) rfl (hb hby d6_38) rfl (tlt (show (255 : Int32) < (nar .char (((((nar .byte ((c1 >>> ((0 : Int32) &&& 31)).toInt8.toInt32)) &&& (255 : Int32)) <<< ((0 : Int32) &&& 31)) ||| (((nar .byte ((c1 >>> ((8 : Int32) &&& 31)).toInt8.toInt32)) &&& (255 : Int32)) <<< ((8 : Int32) &&& 31))).toUInt32.toUInt16.toUInt32.toInt32)) from (by rw [own_gc c1 hr1.1 hr1.2]; exact hc1))).2.2.1 (by decide) (by decide) ?_
  refine Y.aload X4 hx (hb hby d6_54) rfl rfl ?_
  rw [hPP]
  refine own_finA (Q := (Qcm2_1 Z a1 c0 c1 h0 n0)) X4 hx hlk Bd.returns rfl rfl (hb hby d6_56) ?_ (by decide) (by decide)
  show Qcm2_1 Z a1 c0 c1 h0 n0 _ T4.heap _
  rw [e4]
  exact ⟨bt3, rfl, N4, sz_bt3, K3k, V_bt3, E_bt3⟩
theorem ef_si2_0 (m : MethodId) (a1 : Addr) (a2 : Addr) (cs : Int32) (c0 : Int32) (c1 : Int32) : entryFrame m #[(.ref a1), (.ref a2), (.int (0 : Int32)), (.int (2 : Int32)), .null] 6 = mkF m 0 #[.val (.ref a1), .val (.ref a2), .val (.int (0 : Int32)), .val (.int (2 : Int32)), .val .null, .unset] [] := by first | (simp [entryFrame, mkF, argsToLocals, Value.category]; done) | rfl
def Qsi2_0 (Z : State) (a1 : Addr) (a2 : Addr) (cs : Int32) (c0 : Int32) (c1 : Int32) (h0 : Heap) (n0 : Nat) (v : Option Value) (h : Heap) (L : List Loc) : Prop := v = none ∧ Fr n0 L ∧ Keep h0 h [a1] ∧ ∃ vb : Addr, Fld Z h a1 "java/lang/String" "value" "[B" (.ref vb) ∧ Fld Z h a1 "java/lang/String" "coder" "B" (.int (1 : Int32)) ∧ Bal Z h vb .byte [(nar .byte ((c0 >>> ((0 : Int32) &&& 31)).toInt8.toInt32)), (nar .byte ((c0 >>> ((8 : Int32) &&& 31)).toInt8.toInt32)), (nar .byte ((c1 >>> ((0 : Int32) &&& 31)).toInt8.toInt32)), (nar .byte ((c1 >>> ((8 : Int32) &&& 31)).toInt8.toInt32))] ∧ Exa Z h vb "[B"
set_option maxRecDepth 65536 in
set_option maxHeartbeats 40000000 in
theorem rmsi2_0 (l : Launch) (Z : State) (a0 : Array Value) (hw : ∀ d ∈ tables_1, d.before a0 Z = true) (ws : List Jvm.Cond) (a1 : Addr) (a2 : Addr) (cs : Int32) (c0 : Int32) (c1 : Int32) (h0 : Heap) (n0 : Nat) (Z0 : n0 ≤ h0.size) (E_a1 : Exa Z h0 a1 "java/lang/String") (F_value_a1 : Fld Z h0 a1 "java/lang/String" "value" "[B" .null) (F_coder_a1 : Fld Z h0 a1 "java/lang/String" "coder" "B" (.int (0 : Int32))) (g_a1 : n0 ≤ a1) (V_a2 : Bal Z h0 a2 .char [c0, c1]) (own_ne_a1_a2 : a1 ≠ a2) (own_ne_a2_a1 : a2 ≠ a1) (hr0 : 0 ≤ c0.toInt ∧ c0.toInt < 65536) (hr1 : 0 ≤ c1.toInt ∧ c1.toInt < 65536) (hc0 : (255 : Int32) < c0) (SBC : Sta Z Z.heap "java/lang/String" "COMPACT_STRINGS" "Z" (.int cs)) (hcs : ¬ (cs = (0 : Int32))) (SAD : Sta Z Z.heap "java/lang/StringUTF16" "$assertionsDisabled" "Z" (.int (1 : Int32))) (SHI : Sta Z Z.heap "java/lang/StringUTF16" "HI_BYTE_SHIFT" "I" (.int (0 : Int32))) (SLO : Sta Z Z.heap "java/lang/StringUTF16" "LO_BYTE_SHIFT" "I" (.int (8 : Int32))) (O_ : Old Z n0 h0) :
    MetFree l (⟨"java/lang/String", "<init>", "([CIILjava/lang/Void;)V"⟩ : MethodName) (head1 (Jvm.Cond.code (⟨"java/lang/String", "<init>", "([CIILjava/lang/Void;)V"⟩ : MethodName) jdk_42_method_149_code 6 none :: ws) ({ frames := 4, cells := 2, slots := 6, locals := 57 } : Room)) (fun a U => a = #[(.ref a1), (.ref a2), (.int (0 : Int32)), (.int (2 : Int32)), .null] ∧ Z.Warmed39 U.vm ∧ U.heap = h0) (fun _ _ _ _ _ => True) (fun _ U o U' => ∃ v L, o = .returned v ∧ Qsi2_0 Z a1 a2 cs c0 c1 h0 n0 v U'.heap L ∧ FrameEnd U o U' L ({ frames := 4, cells := 2, slots := 6, locals := 57 } : Room).cells ({ frames := 4, cells := 2, slots := 6, locals := 57 } : Room).slots) := by
  have W := @own_wd Z a0 hw
  refine MetFree.of_bodySF (plainFor_of_name pn_4) hisR ?_
  intro p e s m args below meth c s₁ Bd hml0 hP hK
  obtain ⟨rfl, hZ, hh⟩ := hP
  have hx := Bd.exec
  have hby := Bd.bytes
  have hlk : meth.locks = false := BodyLoose.notSynchronized Bd
  have hml : c.maxLocals = 6 := hml0
  have hown : s.vm.findClass "java/lang/String" = some m.cls := findClass_of_methodNamed Bd.named
  have hnm := (name_of_methodNamed Bd.named Bd.method).1
  have X0 : Stand p l e ({ frames := 4, cells := 2, slots := 6, locals := 57 } : Room) s m #[(.ref a1), (.ref a2), (.int (0 : Int32)), (.int (2 : Int32)), .null] below meth c s₁ [] 0 0 := Stand.of_body Bd
  have e0 : s₁.heap = h0 := by rw [← hh, Bd.state]; rfl
  have N0 := Fr.nil n0
  show Gl p.tables e below _ _
  refine Gl.pre (fun t k => castTop (ef_si2_0 m a1 a2 cs c0 c1) k) ?_
  refine Gl.gen (fun PP hPP => ?_)
  have K0 : Keep h0 h0 [a1] := Keep.refl h0 _
  show Gl p.tables e below PP (s₁.setTop (mkF m 0 #[.val (.ref a1), .val (.ref a2), .val (.int (0 : Int32)), .val (.int (2 : Int32)), .val .null, .unset] []))
  refine Y.aloadN X0 hx (hb hby d4_0) rfl rfl ?_
  obtain ⟨T1, X1, e1, st1⟩ := initO X0 hx hZ hown (W 20 rfl) (W 21 rfl) (W 22 rfl) e0 (g := (mkF m 1 #[.val (.ref a1), .val (.ref a2), .val (.int (0 : Int32)), .val (.int (2 : Int32)), .val .null, .unset] [(.ref a1)])) rfl (by rw [hml]; rfl) rfl (hb hby d4_1) (by decide) (W := 0) (by show 2 * 0 + _ ≤ _; exact Nat.le_of_eq rfl) (by decide)
  refine Gl.pre (fun _ k => st1 _ k) ?_
  refine Y.iloadN X1 hx (hb hby d4_4) rfl ?_
  refine Y.ifYes X1 hx (pc0 := 5) (pc' := 27) rfl (hb hby d4_5) rfl ((if0 _ _).trans (feq (show ¬ ((2 : Int32) = (0 : Int32)) from (by decide))).2) (by decide) (by decide) ?_
  obtain ⟨T2, X2, e2, st2⟩ := getS2 X1 hx hZ hown (host := "") (Or.inl (W 23 rfl)) Via.refl e1 (SBC.ext O_.2) (g := (mkF m 27 #[.val (.ref a1), .val (.ref a2), .val (.int (0 : Int32)), .val (.int (2 : Int32)), .val .null, .unset] [])) rfl (hb hby d4_27)
  refine Gl.pre (fun _ k => st2 _ k) ?_
  refine Y.ifNo X2 hx (hb hby d4_30) rfl ((if0 _ _).trans (feq (show ¬ (cs = (0 : Int32)) from hcs)).1) ?_
  refine Y.aloadN X2 hx (hb hby d4_33) rfl rfl ?_
  refine Y.iloadN X2 hx (hb hby d4_34) rfl ?_
  refine Y.iloadN X2 hx (hb hby d4_35) rfl ?_
  obtain ⟨_, _, ⟨T3, L3, k3, n3⟩, -, X3, ⟨Lc3, hQ3, l3, y3, z3⟩, st3⟩ := Jvm.LawKit.callS X2 hx (y := (⟨"java/lang/StringUTF16", "compress", "([CII)[B"⟩ : MethodName)) hown (mvT hZ (W 24 rfl)) (mvT hZ (W 25 rfl)) (mvT hZ (W 26 rfl)) (mvT hZ (W 27 rfl)) (by decide) (backOf (W := 0) (rmcm2_0 l Z a0 hw [] a2 c0 c1 h0 n0 Z0 V_a2 hr0 hr1 hc0 SAD SHI SLO O_) hZ (W 27 rfl) (W 26 rfl) (by decide) (by decide)) (g := (mkF m 36 #[.val (.ref a1), .val (.ref a2), .val (.int (0 : Int32)), .val (.int (2 : Int32)), .val .null, .unset] [(.int (2 : Int32)), (.int (0 : Int32)), (.ref a2)])) rfl (by rw [hml]; rfl) (argsL := [(.ref a2), (.int (0 : Int32)), (.int (2 : Int32))]) (rest := []) (lenOf pd_4 rfl) rfl (by show 2 * 0 + _ ≤ _; exact Nat.le_of_eq rfl) (hb hby d4_36) (fun _ _ => ⟨rfl, e2, (by decide : 0 + 2 ≤ _), (by decide : 0 + 6 ≤ _)⟩)
  dsimp only [Pt.U, Pt.locs, Pt.cells, Pt.slots] at X3 l3 y3 z3 st3 hQ3
  subst l3 y3 z3
  obtain ⟨bc3, rfl, N3q, hz3, K3, V3q, Eb3⟩ := hQ3
  have N3 := Fr.app N0 N3q
  refine Gl.pre (fun _ k => st3 _ k) ?_
  have own_ne_a1_bc3 : a1 ≠ bc3 := Nat.ne_of_lt (Nat.lt_of_lt_of_le E_a1.lt hz3)
  have own_ne_bc3_a1 := own_ne_a1_bc3.symm
  have own_ne_a2_bc3 : a2 ≠ bc3 := Nat.ne_of_lt (Nat.lt_of_lt_of_le V_a2.lt hz3)
  have own_ne_bc3_a2 := own_ne_a2_bc3.symm
  have g_bc3 : n0 ≤ bc3 := Nat.le_trans Z0 hz3
  have sz_bc3 : h0.size ≤ bc3 := Nat.le_trans K0.1 hz3
  have E_a1 := E_a1.keep K3
  have F_value_a1 := F_value_a1.keep K3 nin0
  have F_coder_a1 := F_coder_a1.keep K3 nin0
  have V_a2 := V_a2.keep K3 nin0
  have O_ := O_.keep K3 all0
  have Z3 : n0 ≤ T3.heap.size := Nat.le_trans Z0 K3.1
  have K3k := K0.trans K3 all0
  have V_bc3 := V3q
  have E_bc3 := Eb3
  refine Y.astore X3 hx (hb hby d4_39) rfl rfl (l' := #[.val (.ref a1), .val (.ref a2), .val (.int (0 : Int32)), .val (.int (2 : Int32)), .val .null, .val (.ref bc3)]) rfl ?_
  refine Y.aloadN X3 hx (hb hby d4_41) rfl rfl ?_
  refine Y.aload X3 hx (hb hby d4_42) rfl rfl ?_
  refine Y.iloadN X3 hx (hb hby d4_44) rfl ?_
  obtain ⟨_, _, ⟨T4, L4, k4, n4⟩, -, X4, ⟨Lc4, hQ4, l4, y4, z4⟩, st4⟩ := Jvm.LawKit.callS X3 hx (y := (⟨"java/lang/StringUTF16", "coderFromArrayLen", "([BI)B"⟩ : MethodName)) hown (mvT hZ (W 32 rfl)) (mvT hZ (W 33 rfl)) (mvT hZ (W 26 rfl)) (mvT hZ (W 34 rfl)) (by decide) (backOf (W := 1) (rmcf2_4 l Z a0 hw [] bc3 ([(nar .byte ((c0 >>> ((0 : Int32) &&& 31)).toInt8.toInt32)), (nar .byte ((c0 >>> ((8 : Int32) &&& 31)).toInt8.toInt32)), (nar .byte ((c1 >>> ((0 : Int32) &&& 31)).toInt8.toInt32)), (nar .byte ((c1 >>> ((8 : Int32) &&& 31)).toInt8.toInt32))]) T3.heap n0 Z3 V_bc3 rfl) hZ (W 34 rfl) (W 26 rfl) (by decide) (by decide)) (g := (mkF m 45 #[.val (.ref a1), .val (.ref a2), .val (.int (0 : Int32)), .val (.int (2 : Int32)), .val .null, .val (.ref bc3)] [(.int (2 : Int32)), (.ref bc3), (.ref a1)])) rfl (by rw [hml]; rfl) (argsL := [(.ref bc3), (.int (2 : Int32))]) (rest := [(.ref a1)]) (lenOf pd_6 rfl) rfl (by show 2 * 0 + _ ≤ _; exact Nat.le_of_eq rfl) (hb hby d4_45) (fun _ _ => ⟨rfl, rfl, (by decide : 2 + 0 ≤ _), (by decide : 6 + 0 ≤ _)⟩)
  dsimp only [Pt.U, Pt.locs, Pt.cells, Pt.slots] at X4 l4 y4 z4 st4 hQ4
  subst l4 y4 z4
  obtain ⟨rfl, N4q, e4⟩ := hQ4
  have N4 := Fr.app N3 N4q
  refine Gl.pre (fun _ k => st4 _ k) ?_
  obtain ⟨T5, h5, X5, e5, W5, st5⟩ := putFN X4 hx hZ hown (W 35 rfl) Via.refl e4 F_coder_a1 E_a1 (Or.inr ⟨(W 36 rfl), rfl, hnm⟩) (W 7 rfl) (ty := .byte) (v' := (.int (1 : Int32))) (by decide) rfl rfl (g := (mkF m 48 #[.val (.ref a1), .val (.ref a2), .val (.int (0 : Int32)), .val (.int (2 : Int32)), .val .null, .val (.ref bc3)] [(.int (1 : Int32)), (.ref a1)])) rfl rfl (hb hby d4_48)
  refine Gl.pre (fun _ k => st5 _ k) ?_
  have E_a1 := E_a1.wr W5
  have F_value_a1 := F_value_a1.other W5 (Or.inr (slot_ne (Or.inr (W 38 rfl)) (Or.inr (W 36 rfl)) (by decide) (t := (.array .byte)) (t' := .byte) (by decide) (by decide)))
  have F_coder_a1 := F_coder_a1.same W5
  have V_a2 := V_a2.other W5 (own_ne_a2_a1)
  have O_ := O_.wr W5 g_a1
  have V_bc3 := V_bc3.other W5 (own_ne_bc3_a1)
  have E_bc3 := E_bc3.wr W5
  have Z5 : n0 ≤ h5.size := by rw [W5.size]; exact Z3
  have N5 := Fr.snoc X5 N4 g_a1
  have K5 := K3k.wr W5 (Or.inl (List.mem_of_getElem? (i := 0) rfl))
  refine Y.aloadN X5 hx (hb hby d4_51) rfl rfl ?_
  refine Y.aload X5 hx (hb hby d4_52) rfl rfl ?_
  obtain ⟨T6, h6, X6, e6, W6, st6⟩ := putF X5 hx hZ hown (host := "") (Or.inl (W 37 rfl)) Via.refl e5 F_value_a1 E_a1 (Or.inr ⟨(W 38 rfl), rfl, hnm⟩) (W 7 rfl) (ty := (.array .byte)) (by decide) rfl rfl (g := (mkF m 54 #[.val (.ref a1), .val (.ref a2), .val (.int (0 : Int32)), .val (.int (2 : Int32)), .val .null, .val (.ref bc3)] [(.ref bc3), (.ref a1)])) rfl rfl (hb hby d4_54)
  refine Gl.pre (fun _ k => st6 _ k) ?_
  have E_a1 := E_a1.wr W6
  have F_value_a1 := F_value_a1.same W6
  have F_coder_a1 := F_coder_a1.other W6 (Or.inr (slot_ne (Or.inr (W 36 rfl)) (Or.inr (W 38 rfl)) (by decide) (t := .byte) (t' := (.array .byte)) (by decide) (by decide)))
  have V_a2 := V_a2.other W6 (own_ne_a2_a1)
  have O_ := O_.wr W6 g_a1
  have V_bc3 := V_bc3.other W6 (own_ne_bc3_a1)
  have E_bc3 := E_bc3.wr W6
  have Z6 : n0 ≤ h6.size := by rw [W6.size]; exact Z5
  have N6 := Fr.snoc X6 N5 g_a1
  have K6 := K5.wr W6 (Or.inl (List.mem_of_getElem? (i := 0) rfl))
  rw [hPP]
  refine own_finV (Q := (Qsi2_0 Z a1 a2 cs c0 c1 h0 n0)) X6 hx hlk Bd.returns (hb hby d4_57) ?_ (by decide) (by decide)
  show Qsi2_0 Z a1 a2 cs c0 c1 h0 n0 _ T6.heap _
  rw [e6]
  exact ⟨rfl, N6, K6, bc3, F_value_a1, F_coder_a1, V_bc3, E_bc3⟩
theorem ef_si2_1 (m : MethodId) (a1 : Addr) (a2 : Addr) (cs : Int32) (c0 : Int32) (c1 : Int32) : entryFrame m #[(.ref a1), (.ref a2), (.int (0 : Int32)), (.int (2 : Int32)), .null] 6 = mkF m 0 #[.val (.ref a1), .val (.ref a2), .val (.int (0 : Int32)), .val (.int (2 : Int32)), .val .null, .unset] [] := by first | (simp [entryFrame, mkF, argsToLocals, Value.category]; done) | rfl
def Qsi2_1 (Z : State) (a1 : Addr) (a2 : Addr) (cs : Int32) (c0 : Int32) (c1 : Int32) (h0 : Heap) (n0 : Nat) (v : Option Value) (h : Heap) (L : List Loc) : Prop := v = none ∧ Fr n0 L ∧ Keep h0 h [a1] ∧ ∃ vb : Addr, Fld Z h a1 "java/lang/String" "value" "[B" (.ref vb) ∧ Fld Z h a1 "java/lang/String" "coder" "B" (.int (1 : Int32)) ∧ Bal Z h vb .byte [(nar .byte ((c0 >>> ((0 : Int32) &&& 31)).toInt8.toInt32)), (nar .byte ((c0 >>> ((8 : Int32) &&& 31)).toInt8.toInt32)), (nar .byte ((c1 >>> ((0 : Int32) &&& 31)).toInt8.toInt32)), (nar .byte ((c1 >>> ((8 : Int32) &&& 31)).toInt8.toInt32))] ∧ Exa Z h vb "[B"
set_option maxRecDepth 65536 in
set_option maxHeartbeats 40000000 in
theorem rmsi2_1 (l : Launch) (Z : State) (a0 : Array Value) (hw : ∀ d ∈ tables_1, d.before a0 Z = true) (ws : List Jvm.Cond) (a1 : Addr) (a2 : Addr) (cs : Int32) (c0 : Int32) (c1 : Int32) (h0 : Heap) (n0 : Nat) (Z0 : n0 ≤ h0.size) (E_a1 : Exa Z h0 a1 "java/lang/String") (F_value_a1 : Fld Z h0 a1 "java/lang/String" "value" "[B" .null) (F_coder_a1 : Fld Z h0 a1 "java/lang/String" "coder" "B" (.int (0 : Int32))) (g_a1 : n0 ≤ a1) (V_a2 : Bal Z h0 a2 .char [c0, c1]) (own_ne_a1_a2 : a1 ≠ a2) (own_ne_a2_a1 : a2 ≠ a1) (hr0 : 0 ≤ c0.toInt ∧ c0.toInt < 65536) (hr1 : 0 ≤ c1.toInt ∧ c1.toInt < 65536) (hc0 : ¬ ((255 : Int32) < c0)) (hc1 : (255 : Int32) < c1) (SBC : Sta Z Z.heap "java/lang/String" "COMPACT_STRINGS" "Z" (.int cs)) (hcs : ¬ (cs = (0 : Int32))) (SAD : Sta Z Z.heap "java/lang/StringUTF16" "$assertionsDisabled" "Z" (.int (1 : Int32))) (SHI : Sta Z Z.heap "java/lang/StringUTF16" "HI_BYTE_SHIFT" "I" (.int (0 : Int32))) (SLO : Sta Z Z.heap "java/lang/StringUTF16" "LO_BYTE_SHIFT" "I" (.int (8 : Int32))) (O_ : Old Z n0 h0) :
    MetFree l (⟨"java/lang/String", "<init>", "([CIILjava/lang/Void;)V"⟩ : MethodName) (head1 (Jvm.Cond.code (⟨"java/lang/String", "<init>", "([CIILjava/lang/Void;)V"⟩ : MethodName) jdk_42_method_149_code 6 none :: ws) ({ frames := 4, cells := 2, slots := 6, locals := 57 } : Room)) (fun a U => a = #[(.ref a1), (.ref a2), (.int (0 : Int32)), (.int (2 : Int32)), .null] ∧ Z.Warmed39 U.vm ∧ U.heap = h0) (fun _ _ _ _ _ => True) (fun _ U o U' => ∃ v L, o = .returned v ∧ Qsi2_1 Z a1 a2 cs c0 c1 h0 n0 v U'.heap L ∧ FrameEnd U o U' L ({ frames := 4, cells := 2, slots := 6, locals := 57 } : Room).cells ({ frames := 4, cells := 2, slots := 6, locals := 57 } : Room).slots) := by
  have W := @own_wd Z a0 hw
  refine MetFree.of_bodySF (plainFor_of_name pn_4) hisR ?_
  intro p e s m args below meth c s₁ Bd hml0 hP hK
  obtain ⟨rfl, hZ, hh⟩ := hP
  have hx := Bd.exec
  have hby := Bd.bytes
  have hlk : meth.locks = false := BodyLoose.notSynchronized Bd
  have hml : c.maxLocals = 6 := hml0
  have hown : s.vm.findClass "java/lang/String" = some m.cls := findClass_of_methodNamed Bd.named
  have hnm := (name_of_methodNamed Bd.named Bd.method).1
  have X0 : Stand p l e ({ frames := 4, cells := 2, slots := 6, locals := 57 } : Room) s m #[(.ref a1), (.ref a2), (.int (0 : Int32)), (.int (2 : Int32)), .null] below meth c s₁ [] 0 0 := Stand.of_body Bd
  have e0 : s₁.heap = h0 := by rw [← hh, Bd.state]; rfl
  have N0 := Fr.nil n0
  show Gl p.tables e below _ _
  refine Gl.pre (fun t k => castTop (ef_si2_1 m a1 a2 cs c0 c1) k) ?_
  refine Gl.gen (fun PP hPP => ?_)
  have K0 : Keep h0 h0 [a1] := Keep.refl h0 _
  show Gl p.tables e below PP (s₁.setTop (mkF m 0 #[.val (.ref a1), .val (.ref a2), .val (.int (0 : Int32)), .val (.int (2 : Int32)), .val .null, .unset] []))
  refine Y.aloadN X0 hx (hb hby d4_0) rfl rfl ?_
  obtain ⟨T1, X1, e1, st1⟩ := initO X0 hx hZ hown (W 20 rfl) (W 21 rfl) (W 22 rfl) e0 (g := (mkF m 1 #[.val (.ref a1), .val (.ref a2), .val (.int (0 : Int32)), .val (.int (2 : Int32)), .val .null, .unset] [(.ref a1)])) rfl (by rw [hml]; rfl) rfl (hb hby d4_1) (by decide) (W := 0) (by show 2 * 0 + _ ≤ _; exact Nat.le_of_eq rfl) (by decide)
  refine Gl.pre (fun _ k => st1 _ k) ?_
  refine Y.iloadN X1 hx (hb hby d4_4) rfl ?_
  refine Y.ifYes X1 hx (pc0 := 5) (pc' := 27) rfl (hb hby d4_5) rfl ((if0 _ _).trans (feq (show ¬ ((2 : Int32) = (0 : Int32)) from (by decide))).2) (by decide) (by decide) ?_
  obtain ⟨T2, X2, e2, st2⟩ := getS2 X1 hx hZ hown (host := "") (Or.inl (W 23 rfl)) Via.refl e1 (SBC.ext O_.2) (g := (mkF m 27 #[.val (.ref a1), .val (.ref a2), .val (.int (0 : Int32)), .val (.int (2 : Int32)), .val .null, .unset] [])) rfl (hb hby d4_27)
  refine Gl.pre (fun _ k => st2 _ k) ?_
  refine Y.ifNo X2 hx (hb hby d4_30) rfl ((if0 _ _).trans (feq (show ¬ (cs = (0 : Int32)) from hcs)).1) ?_
  refine Y.aloadN X2 hx (hb hby d4_33) rfl rfl ?_
  refine Y.iloadN X2 hx (hb hby d4_34) rfl ?_
  refine Y.iloadN X2 hx (hb hby d4_35) rfl ?_
  obtain ⟨_, _, ⟨T3, L3, k3, n3⟩, -, X3, ⟨Lc3, hQ3, l3, y3, z3⟩, st3⟩ := Jvm.LawKit.callS X2 hx (y := (⟨"java/lang/StringUTF16", "compress", "([CII)[B"⟩ : MethodName)) hown (mvT hZ (W 24 rfl)) (mvT hZ (W 25 rfl)) (mvT hZ (W 26 rfl)) (mvT hZ (W 27 rfl)) (by decide) (backOf (W := 0) (rmcm2_1 l Z a0 hw [] a2 c0 c1 h0 n0 Z0 V_a2 hr0 hr1 hc0 hc1 SAD SHI SLO O_) hZ (W 27 rfl) (W 26 rfl) (by decide) (by decide)) (g := (mkF m 36 #[.val (.ref a1), .val (.ref a2), .val (.int (0 : Int32)), .val (.int (2 : Int32)), .val .null, .unset] [(.int (2 : Int32)), (.int (0 : Int32)), (.ref a2)])) rfl (by rw [hml]; rfl) (argsL := [(.ref a2), (.int (0 : Int32)), (.int (2 : Int32))]) (rest := []) (lenOf pd_4 rfl) rfl (by show 2 * 0 + _ ≤ _; exact Nat.le_of_eq rfl) (hb hby d4_36) (fun _ _ => ⟨rfl, e2, (by decide : 0 + 2 ≤ _), (by decide : 0 + 6 ≤ _)⟩)
  dsimp only [Pt.U, Pt.locs, Pt.cells, Pt.slots] at X3 l3 y3 z3 st3 hQ3
  subst l3 y3 z3
  obtain ⟨bc3, rfl, N3q, hz3, K3, V3q, Eb3⟩ := hQ3
  have N3 := Fr.app N0 N3q
  refine Gl.pre (fun _ k => st3 _ k) ?_
  have own_ne_a1_bc3 : a1 ≠ bc3 := Nat.ne_of_lt (Nat.lt_of_lt_of_le E_a1.lt hz3)
  have own_ne_bc3_a1 := own_ne_a1_bc3.symm
  have own_ne_a2_bc3 : a2 ≠ bc3 := Nat.ne_of_lt (Nat.lt_of_lt_of_le V_a2.lt hz3)
  have own_ne_bc3_a2 := own_ne_a2_bc3.symm
  have g_bc3 : n0 ≤ bc3 := Nat.le_trans Z0 hz3
  have sz_bc3 : h0.size ≤ bc3 := Nat.le_trans K0.1 hz3
  have E_a1 := E_a1.keep K3
  have F_value_a1 := F_value_a1.keep K3 nin0
  have F_coder_a1 := F_coder_a1.keep K3 nin0
  have V_a2 := V_a2.keep K3 nin0
  have O_ := O_.keep K3 all0
  have Z3 : n0 ≤ T3.heap.size := Nat.le_trans Z0 K3.1
  have K3k := K0.trans K3 all0
  have V_bc3 := V3q
  have E_bc3 := Eb3
  refine Y.astore X3 hx (hb hby d4_39) rfl rfl (l' := #[.val (.ref a1), .val (.ref a2), .val (.int (0 : Int32)), .val (.int (2 : Int32)), .val .null, .val (.ref bc3)]) rfl ?_
  refine Y.aloadN X3 hx (hb hby d4_41) rfl rfl ?_
  refine Y.aload X3 hx (hb hby d4_42) rfl rfl ?_
  refine Y.iloadN X3 hx (hb hby d4_44) rfl ?_
  obtain ⟨_, _, ⟨T4, L4, k4, n4⟩, -, X4, ⟨Lc4, hQ4, l4, y4, z4⟩, st4⟩ := Jvm.LawKit.callS X3 hx (y := (⟨"java/lang/StringUTF16", "coderFromArrayLen", "([BI)B"⟩ : MethodName)) hown (mvT hZ (W 32 rfl)) (mvT hZ (W 33 rfl)) (mvT hZ (W 26 rfl)) (mvT hZ (W 34 rfl)) (by decide) (backOf (W := 1) (rmcf2_4 l Z a0 hw [] bc3 ([(nar .byte ((c0 >>> ((0 : Int32) &&& 31)).toInt8.toInt32)), (nar .byte ((c0 >>> ((8 : Int32) &&& 31)).toInt8.toInt32)), (nar .byte ((c1 >>> ((0 : Int32) &&& 31)).toInt8.toInt32)), (nar .byte ((c1 >>> ((8 : Int32) &&& 31)).toInt8.toInt32))]) T3.heap n0 Z3 V_bc3 rfl) hZ (W 34 rfl) (W 26 rfl) (by decide) (by decide)) (g := (mkF m 45 #[.val (.ref a1), .val (.ref a2), .val (.int (0 : Int32)), .val (.int (2 : Int32)), .val .null, .val (.ref bc3)] [(.int (2 : Int32)), (.ref bc3), (.ref a1)])) rfl (by rw [hml]; rfl) (argsL := [(.ref bc3), (.int (2 : Int32))]) (rest := [(.ref a1)]) (lenOf pd_6 rfl) rfl (by show 2 * 0 + _ ≤ _; exact Nat.le_of_eq rfl) (hb hby d4_45) (fun _ _ => ⟨rfl, rfl, (by decide : 2 + 0 ≤ _), (by decide : 6 + 0 ≤ _)⟩)
  dsimp only [Pt.U, Pt.locs, Pt.cells, Pt.slots] at X4 l4 y4 z4 st4 hQ4
  subst l4 y4 z4
  obtain ⟨rfl, N4q, e4⟩ := hQ4
  have N4 := Fr.app N3 N4q
  refine Gl.pre (fun _ k => st4 _ k) ?_
  obtain ⟨T5, h5, X5, e5, W5, st5⟩ := putFN X4 hx hZ hown (W 35 rfl) Via.refl e4 F_coder_a1 E_a1 (Or.inr ⟨(W 36 rfl), rfl, hnm⟩) (W 7 rfl) (ty := .byte) (v' := (.int (1 : Int32))) (by decide) rfl rfl (g := (mkF m 48 #[.val (.ref a1), .val (.ref a2), .val (.int (0 : Int32)), .val (.int (2 : Int32)), .val .null, .val (.ref bc3)] [(.int (1 : Int32)), (.ref a1)])) rfl rfl (hb hby d4_48)
  refine Gl.pre (fun _ k => st5 _ k) ?_
  have E_a1 := E_a1.wr W5
  have F_value_a1 := F_value_a1.other W5 (Or.inr (slot_ne (Or.inr (W 38 rfl)) (Or.inr (W 36 rfl)) (by decide) (t := (.array .byte)) (t' := .byte) (by decide) (by decide)))
  have F_coder_a1 := F_coder_a1.same W5
  have V_a2 := V_a2.other W5 (own_ne_a2_a1)
  have O_ := O_.wr W5 g_a1
  have V_bc3 := V_bc3.other W5 (own_ne_bc3_a1)
  have E_bc3 := E_bc3.wr W5
  have Z5 : n0 ≤ h5.size := by rw [W5.size]; exact Z3
  have N5 := Fr.snoc X5 N4 g_a1
  have K5 := K3k.wr W5 (Or.inl (List.mem_of_getElem? (i := 0) rfl))
  refine Y.aloadN X5 hx (hb hby d4_51) rfl rfl ?_
  refine Y.aload X5 hx (hb hby d4_52) rfl rfl ?_
  obtain ⟨T6, h6, X6, e6, W6, st6⟩ := putF X5 hx hZ hown (host := "") (Or.inl (W 37 rfl)) Via.refl e5 F_value_a1 E_a1 (Or.inr ⟨(W 38 rfl), rfl, hnm⟩) (W 7 rfl) (ty := (.array .byte)) (by decide) rfl rfl (g := (mkF m 54 #[.val (.ref a1), .val (.ref a2), .val (.int (0 : Int32)), .val (.int (2 : Int32)), .val .null, .val (.ref bc3)] [(.ref bc3), (.ref a1)])) rfl rfl (hb hby d4_54)
  refine Gl.pre (fun _ k => st6 _ k) ?_
  have E_a1 := E_a1.wr W6
  have F_value_a1 := F_value_a1.same W6
  have F_coder_a1 := F_coder_a1.other W6 (Or.inr (slot_ne (Or.inr (W 36 rfl)) (Or.inr (W 38 rfl)) (by decide) (t := .byte) (t' := (.array .byte)) (by decide) (by decide)))
  have V_a2 := V_a2.other W6 (own_ne_a2_a1)
  have O_ := O_.wr W6 g_a1
  have V_bc3 := V_bc3.other W6 (own_ne_bc3_a1)
  have E_bc3 := E_bc3.wr W6
  have Z6 : n0 ≤ h6.size := by rw [W6.size]; exact Z5
  have N6 := Fr.snoc X6 N5 g_a1
  have K6 := K5.wr W6 (Or.inl (List.mem_of_getElem? (i := 0) rfl))
  rw [hPP]
  refine own_finV (Q := (Qsi2_1 Z a1 a2 cs c0 c1 h0 n0)) X6 hx hlk Bd.returns (hb hby d4_57) ?_ (by decide) (by decide)
  show Qsi2_1 Z a1 a2 cs c0 c1 h0 n0 _ T6.heap _
  rw [e6]
  exact ⟨rfl, N6, K6, bc3, F_value_a1, F_coder_a1, V_bc3, E_bc3⟩
theorem ef_si2_2 (m : MethodId) (a1 : Addr) (a2 : Addr) (cs : Int32) (c0 : Int32) (c1 : Int32) : entryFrame m #[(.ref a1), (.ref a2), (.int (0 : Int32)), (.int (2 : Int32)), .null] 6 = mkF m 0 #[.val (.ref a1), .val (.ref a2), .val (.int (0 : Int32)), .val (.int (2 : Int32)), .val .null, .unset] [] := by first | (simp [entryFrame, mkF, argsToLocals, Value.category]; done) | rfl
def Qsi2_2 (Z : State) (a1 : Addr) (a2 : Addr) (cs : Int32) (c0 : Int32) (c1 : Int32) (h0 : Heap) (n0 : Nat) (v : Option Value) (h : Heap) (L : List Loc) : Prop := v = none ∧ Fr n0 L ∧ Keep h0 h [a1] ∧ ∃ vb : Addr, Fld Z h a1 "java/lang/String" "value" "[B" (.ref vb) ∧ Fld Z h a1 "java/lang/String" "coder" "B" (.int (0 : Int32)) ∧ Bal Z h vb .byte [(nar .byte (c0.toInt8.toInt32)), (nar .byte (c1.toInt8.toInt32))] ∧ Exa Z h vb "[B"
set_option maxRecDepth 65536 in
set_option maxHeartbeats 40000000 in
theorem rmsi2_2 (l : Launch) (Z : State) (a0 : Array Value) (hw : ∀ d ∈ tables_1, d.before a0 Z = true) (ws : List Jvm.Cond) (a1 : Addr) (a2 : Addr) (cs : Int32) (c0 : Int32) (c1 : Int32) (h0 : Heap) (n0 : Nat) (Z0 : n0 ≤ h0.size) (E_a1 : Exa Z h0 a1 "java/lang/String") (F_value_a1 : Fld Z h0 a1 "java/lang/String" "value" "[B" .null) (F_coder_a1 : Fld Z h0 a1 "java/lang/String" "coder" "B" (.int (0 : Int32))) (g_a1 : n0 ≤ a1) (V_a2 : Bal Z h0 a2 .char [c0, c1]) (own_ne_a1_a2 : a1 ≠ a2) (own_ne_a2_a1 : a2 ≠ a1) (hr0 : 0 ≤ c0.toInt ∧ c0.toInt < 65536) (hr1 : 0 ≤ c1.toInt ∧ c1.toInt < 65536) (hc0 : ¬ ((255 : Int32) < c0)) (hc1 : ¬ ((255 : Int32) < c1)) (SBC : Sta Z Z.heap "java/lang/String" "COMPACT_STRINGS" "Z" (.int cs)) (hcs : ¬ (cs = (0 : Int32))) (SAD : Sta Z Z.heap "java/lang/StringUTF16" "$assertionsDisabled" "Z" (.int (1 : Int32))) (SHI : Sta Z Z.heap "java/lang/StringUTF16" "HI_BYTE_SHIFT" "I" (.int (0 : Int32))) (SLO : Sta Z Z.heap "java/lang/StringUTF16" "LO_BYTE_SHIFT" "I" (.int (8 : Int32))) (O_ : Old Z n0 h0) :
    MetFree l (⟨"java/lang/String", "<init>", "([CIILjava/lang/Void;)V"⟩ : MethodName) (head1 (Jvm.Cond.code (⟨"java/lang/String", "<init>", "([CIILjava/lang/Void;)V"⟩ : MethodName) jdk_42_method_149_code 6 none :: ws) ({ frames := 2, cells := 1, slots := 2, locals := 35 } : Room)) (fun a U => a = #[(.ref a1), (.ref a2), (.int (0 : Int32)), (.int (2 : Int32)), .null] ∧ Z.Warmed39 U.vm ∧ U.heap = h0) (fun _ _ _ _ _ => True) (fun _ U o U' => ∃ v L, o = .returned v ∧ Qsi2_2 Z a1 a2 cs c0 c1 h0 n0 v U'.heap L ∧ FrameEnd U o U' L ({ frames := 2, cells := 1, slots := 2, locals := 35 } : Room).cells ({ frames := 2, cells := 1, slots := 2, locals := 35 } : Room).slots) := by
  have W := @own_wd Z a0 hw
  refine MetFree.of_bodySF (plainFor_of_name pn_4) hisR ?_
  intro p e s m args below meth c s₁ Bd hml0 hP hK
  obtain ⟨rfl, hZ, hh⟩ := hP
  have hx := Bd.exec
  have hby := Bd.bytes
  have hlk : meth.locks = false := BodyLoose.notSynchronized Bd
  have hml : c.maxLocals = 6 := hml0
  have hown : s.vm.findClass "java/lang/String" = some m.cls := findClass_of_methodNamed Bd.named
  have hnm := (name_of_methodNamed Bd.named Bd.method).1
  have X0 : Stand p l e ({ frames := 2, cells := 1, slots := 2, locals := 35 } : Room) s m #[(.ref a1), (.ref a2), (.int (0 : Int32)), (.int (2 : Int32)), .null] below meth c s₁ [] 0 0 := Stand.of_body Bd
  have e0 : s₁.heap = h0 := by rw [← hh, Bd.state]; rfl
  have N0 := Fr.nil n0
  show Gl p.tables e below _ _
  refine Gl.pre (fun t k => castTop (ef_si2_2 m a1 a2 cs c0 c1) k) ?_
  refine Gl.gen (fun PP hPP => ?_)
  have K0 : Keep h0 h0 [a1] := Keep.refl h0 _
  show Gl p.tables e below PP (s₁.setTop (mkF m 0 #[.val (.ref a1), .val (.ref a2), .val (.int (0 : Int32)), .val (.int (2 : Int32)), .val .null, .unset] []))
  refine Y.aloadN X0 hx (hb hby d4_0) rfl rfl ?_
  obtain ⟨T1, X1, e1, st1⟩ := initO X0 hx hZ hown (W 20 rfl) (W 21 rfl) (W 22 rfl) e0 (g := (mkF m 1 #[.val (.ref a1), .val (.ref a2), .val (.int (0 : Int32)), .val (.int (2 : Int32)), .val .null, .unset] [(.ref a1)])) rfl (by rw [hml]; rfl) rfl (hb hby d4_1) (by decide) (W := 0) (by show 2 * 0 + _ ≤ _; exact Nat.le_of_eq rfl) (by decide)
  refine Gl.pre (fun _ k => st1 _ k) ?_
  refine Y.iloadN X1 hx (hb hby d4_4) rfl ?_
  refine Y.ifYes X1 hx (pc0 := 5) (pc' := 27) rfl (hb hby d4_5) rfl ((if0 _ _).trans (feq (show ¬ ((2 : Int32) = (0 : Int32)) from (by decide))).2) (by decide) (by decide) ?_
  obtain ⟨T2, X2, e2, st2⟩ := getS2 X1 hx hZ hown (host := "") (Or.inl (W 23 rfl)) Via.refl e1 (SBC.ext O_.2) (g := (mkF m 27 #[.val (.ref a1), .val (.ref a2), .val (.int (0 : Int32)), .val (.int (2 : Int32)), .val .null, .unset] [])) rfl (hb hby d4_27)
  refine Gl.pre (fun _ k => st2 _ k) ?_
  refine Y.ifNo X2 hx (hb hby d4_30) rfl ((if0 _ _).trans (feq (show ¬ (cs = (0 : Int32)) from hcs)).1) ?_
  refine Y.aloadN X2 hx (hb hby d4_33) rfl rfl ?_
  refine Y.iloadN X2 hx (hb hby d4_34) rfl ?_
  refine Y.iloadN X2 hx (hb hby d4_35) rfl ?_
  obtain ⟨_, _, ⟨T3, L3, k3, n3⟩, -, X3, ⟨Lc3, hQ3, l3, y3, z3⟩, st3⟩ := Jvm.LawKit.callS X2 hx (y := (⟨"java/lang/StringUTF16", "compress", "([CII)[B"⟩ : MethodName)) hown (mvT hZ (W 24 rfl)) (mvT hZ (W 25 rfl)) (mvT hZ (W 26 rfl)) (mvT hZ (W 27 rfl)) (by decide) (backOf (W := 0) (rmcm2_2 l Z a0 hw [] a2 c0 c1 h0 n0 Z0 V_a2 hc0 hc1) hZ (W 27 rfl) (W 26 rfl) (by decide) (by decide)) (g := (mkF m 36 #[.val (.ref a1), .val (.ref a2), .val (.int (0 : Int32)), .val (.int (2 : Int32)), .val .null, .unset] [(.int (2 : Int32)), (.int (0 : Int32)), (.ref a2)])) rfl (by rw [hml]; rfl) (argsL := [(.ref a2), (.int (0 : Int32)), (.int (2 : Int32))]) (rest := []) (lenOf pd_4 rfl) rfl (by show 2 * 0 + _ ≤ _; exact Nat.le_of_eq rfl) (hb hby d4_36) (fun _ _ => ⟨rfl, e2, (by decide : 0 + 1 ≤ _), (by decide : 0 + 2 ≤ _)⟩)
  dsimp only [Pt.U, Pt.locs, Pt.cells, Pt.slots] at X3 l3 y3 z3 st3 hQ3
  subst l3 y3 z3
  obtain ⟨bc3, rfl, N3q, hz3, K3, V3q, Eb3⟩ := hQ3
  have N3 := Fr.app N0 N3q
  refine Gl.pre (fun _ k => st3 _ k) ?_
  have own_ne_a1_bc3 : a1 ≠ bc3 := Nat.ne_of_lt (Nat.lt_of_lt_of_le E_a1.lt hz3)
  have own_ne_bc3_a1 := own_ne_a1_bc3.symm
  have own_ne_a2_bc3 : a2 ≠ bc3 := Nat.ne_of_lt (Nat.lt_of_lt_of_le V_a2.lt hz3)
  have own_ne_bc3_a2 := own_ne_a2_bc3.symm
  have g_bc3 : n0 ≤ bc3 := Nat.le_trans Z0 hz3
  have sz_bc3 : h0.size ≤ bc3 := Nat.le_trans K0.1 hz3
  have E_a1 := E_a1.keep K3
  have F_value_a1 := F_value_a1.keep K3 nin0
  have F_coder_a1 := F_coder_a1.keep K3 nin0
  have V_a2 := V_a2.keep K3 nin0
  have O_ := O_.keep K3 all0
  have Z3 : n0 ≤ T3.heap.size := Nat.le_trans Z0 K3.1
  have K3k := K0.trans K3 all0
  have V_bc3 := V3q
  have E_bc3 := Eb3
  refine Y.astore X3 hx (hb hby d4_39) rfl rfl (l' := #[.val (.ref a1), .val (.ref a2), .val (.int (0 : Int32)), .val (.int (2 : Int32)), .val .null, .val (.ref bc3)]) rfl ?_
  refine Y.aloadN X3 hx (hb hby d4_41) rfl rfl ?_
  refine Y.aload X3 hx (hb hby d4_42) rfl rfl ?_
  refine Y.iloadN X3 hx (hb hby d4_44) rfl ?_
  obtain ⟨_, _, ⟨T4, L4, k4, n4⟩, -, X4, ⟨Lc4, hQ4, l4, y4, z4⟩, st4⟩ := Jvm.LawKit.callS X3 hx (y := (⟨"java/lang/StringUTF16", "coderFromArrayLen", "([BI)B"⟩ : MethodName)) hown (mvT hZ (W 32 rfl)) (mvT hZ (W 33 rfl)) (mvT hZ (W 26 rfl)) (mvT hZ (W 34 rfl)) (by decide) (backOf (W := 1) (rmcf2_2 l Z a0 hw [] bc3 ([(nar .byte (c0.toInt8.toInt32)), (nar .byte (c1.toInt8.toInt32))]) T3.heap n0 Z3 V_bc3 rfl) hZ (W 34 rfl) (W 26 rfl) (by decide) (by decide)) (g := (mkF m 45 #[.val (.ref a1), .val (.ref a2), .val (.int (0 : Int32)), .val (.int (2 : Int32)), .val .null, .val (.ref bc3)] [(.int (2 : Int32)), (.ref bc3), (.ref a1)])) rfl (by rw [hml]; rfl) (argsL := [(.ref bc3), (.int (2 : Int32))]) (rest := [(.ref a1)]) (lenOf pd_6 rfl) rfl (by show 2 * 0 + _ ≤ _; exact Nat.le_of_eq rfl) (hb hby d4_45) (fun _ _ => ⟨rfl, rfl, (by decide : 1 + 0 ≤ _), (by decide : 2 + 0 ≤ _)⟩)
  dsimp only [Pt.U, Pt.locs, Pt.cells, Pt.slots] at X4 l4 y4 z4 st4 hQ4
  subst l4 y4 z4
  obtain ⟨rfl, N4q, e4⟩ := hQ4
  have N4 := Fr.app N3 N4q
  refine Gl.pre (fun _ k => st4 _ k) ?_
  obtain ⟨T5, h5, X5, e5, W5, st5⟩ := putFN X4 hx hZ hown (W 35 rfl) Via.refl e4 F_coder_a1 E_a1 (Or.inr ⟨(W 36 rfl), rfl, hnm⟩) (W 7 rfl) (ty := .byte) (v' := (.int (0 : Int32))) (by decide) rfl rfl (g := (mkF m 48 #[.val (.ref a1), .val (.ref a2), .val (.int (0 : Int32)), .val (.int (2 : Int32)), .val .null, .val (.ref bc3)] [(.int (0 : Int32)), (.ref a1)])) rfl rfl (hb hby d4_48)
  refine Gl.pre (fun _ k => st5 _ k) ?_
  have E_a1 := E_a1.wr W5
  have F_value_a1 := F_value_a1.other W5 (Or.inr (slot_ne (Or.inr (W 38 rfl)) (Or.inr (W 36 rfl)) (by decide) (t := (.array .byte)) (t' := .byte) (by decide) (by decide)))
  have F_coder_a1 := F_coder_a1.same W5
  have V_a2 := V_a2.other W5 (own_ne_a2_a1)
  have O_ := O_.wr W5 g_a1
  have V_bc3 := V_bc3.other W5 (own_ne_bc3_a1)
  have E_bc3 := E_bc3.wr W5
  have Z5 : n0 ≤ h5.size := by rw [W5.size]; exact Z3
  have N5 := Fr.snoc X5 N4 g_a1
  have K5 := K3k.wr W5 (Or.inl (List.mem_of_getElem? (i := 0) rfl))
  refine Y.aloadN X5 hx (hb hby d4_51) rfl rfl ?_
  refine Y.aload X5 hx (hb hby d4_52) rfl rfl ?_
  obtain ⟨T6, h6, X6, e6, W6, st6⟩ := putF X5 hx hZ hown (host := "") (Or.inl (W 37 rfl)) Via.refl e5 F_value_a1 E_a1 (Or.inr ⟨(W 38 rfl), rfl, hnm⟩) (W 7 rfl) (ty := (.array .byte)) (by decide) rfl rfl (g := (mkF m 54 #[.val (.ref a1), .val (.ref a2), .val (.int (0 : Int32)), .val (.int (2 : Int32)), .val .null, .val (.ref bc3)] [(.ref bc3), (.ref a1)])) rfl rfl (hb hby d4_54)
  refine Gl.pre (fun _ k => st6 _ k) ?_
  have E_a1 := E_a1.wr W6
  have F_value_a1 := F_value_a1.same W6
  have F_coder_a1 := F_coder_a1.other W6 (Or.inr (slot_ne (Or.inr (W 36 rfl)) (Or.inr (W 38 rfl)) (by decide) (t := .byte) (t' := (.array .byte)) (by decide) (by decide)))
  have V_a2 := V_a2.other W6 (own_ne_a2_a1)
  have O_ := O_.wr W6 g_a1
  have V_bc3 := V_bc3.other W6 (own_ne_bc3_a1)
  have E_bc3 := E_bc3.wr W6
  have Z6 : n0 ≤ h6.size := by rw [W6.size]; exact Z5
  have N6 := Fr.snoc X6 N5 g_a1
  have K6 := K5.wr W6 (Or.inl (List.mem_of_getElem? (i := 0) rfl))
  rw [hPP]
  refine own_finV (Q := (Qsi2_2 Z a1 a2 cs c0 c1 h0 n0)) X6 hx hlk Bd.returns (hb hby d4_57) ?_ (by decide) (by decide)
  show Qsi2_2 Z a1 a2 cs c0 c1 h0 n0 _ T6.heap _
  rw [e6]
  exact ⟨rfl, N6, K6, bc3, F_value_a1, F_coder_a1, V_bc3, E_bc3⟩
theorem ef_si0_0 (m : MethodId) (a1 : Addr) (a2 : Addr) : entryFrame m #[(.ref a1), (.ref a2), (.int (0 : Int32)), (.int (0 : Int32)), .null] 6 = mkF m 0 #[.val (.ref a1), .val (.ref a2), .val (.int (0 : Int32)), .val (.int (0 : Int32)), .val .null, .unset] [] := by first | (simp [entryFrame, mkF, argsToLocals, Value.category]; done) | rfl
def Qsi0_0 (Z : State) (a1 : Addr) (a2 : Addr) (h0 : Heap) (n0 : Nat) (v : Option Value) (h : Heap) (L : List Loc) : Prop := v = none ∧ Fr n0 L ∧ Keep h0 h [a1] ∧ ∃ vb : Addr, Fld Z h a1 "java/lang/String" "value" "[B" (.ref vb) ∧ Fld Z h a1 "java/lang/String" "coder" "B" (.int (0 : Int32)) ∧ Bal Z h vb .byte [] ∧ Exa Z h vb "[B"
set_option maxRecDepth 65536 in
set_option maxHeartbeats 40000000 in
theorem rmsi0_0 (l : Launch) (Z : State) (a0 : Array Value) (hw : ∀ d ∈ tables_1, d.before a0 Z = true) (ws : List Jvm.Cond) (a1 : Addr) (a2 : Addr) (h0 : Heap) (n0 : Nat) (Z0 : n0 ≤ h0.size) (E_a1 : Exa Z h0 a1 "java/lang/String") (F_value_a1 : Fld Z h0 a1 "java/lang/String" "value" "[B" .null) (F_coder_a1 : Fld Z h0 a1 "java/lang/String" "coder" "B" (.int (0 : Int32))) (g_a1 : n0 ≤ a1) (hEL : EW Z a0 own_EL) :
    MetFree l (⟨"java/lang/String", "<init>", "([CIILjava/lang/Void;)V"⟩ : MethodName) (head1 (Jvm.Cond.code (⟨"java/lang/String", "<init>", "([CIILjava/lang/Void;)V"⟩ : MethodName) jdk_42_method_149_code 6 none :: ws) ({ frames := 1, cells := 4, slots := 8, locals := 12 } : Room)) (fun a U => a = #[(.ref a1), (.ref a2), (.int (0 : Int32)), (.int (0 : Int32)), .null] ∧ Z.Warmed39 U.vm ∧ U.heap = h0 ∧ CHv Z own_EL U.vm h0 ∧ ∀ x ∈ ([a1] : List Addr), Safe Z own_EL U.vm h0 x) (fun _ _ _ _ _ => True) (fun _ U o U' => ∃ v L, o = .returned v ∧ Qsi0_0 Z a1 a2 h0 n0 v U'.heap L ∧ CHr Z own_EL U.vm U.heap U'.vm U'.heap ∧ ReturnedEndW U o U' L ({ frames := 1, cells := 4, slots := 8, locals := 12 } : Room).cells ({ frames := 1, cells := 4, slots := 8, locals := 12 } : Room).slots) := by
  have W := @own_wd Z a0 hw
  refine MetFree.of_bodySF (plainFor_of_name pn_4) hisR ?_
  intro p e s m args below meth c s₁ Bd hml0 hP hK
  obtain ⟨rfl, hZ, hh, hCH, hSL⟩ := hP
  have hx := Bd.exec
  have hby := Bd.bytes
  have hlk : meth.locks = false := BodyLoose.notSynchronized Bd
  have hml : c.maxLocals = 6 := hml0
  have hown : s.vm.findClass "java/lang/String" = some m.cls := findClass_of_methodNamed Bd.named
  have hnm := (name_of_methodNamed Bd.named Bd.method).1
  have X0 : Stand p l e ({ frames := 1, cells := 4, slots := 8, locals := 12 } : Room) (s.setVm s.vm) m #[(.ref a1), (.ref a2), (.int (0 : Int32)), (.int (0 : Int32)), .null] below meth c s₁ [] 0 0 := Stand.of_body Bd
  have hZ0 : Z.Warmed39 (s.setVm s.vm).vm := hZ
  have hown0 : (s.setVm s.vm).vm.findClass "java/lang/String" = some m.cls := hown
  have hS0 : s.Since s.vm h0.size := (State.WarmedH.refl s).since _
  have hk0 : h0.size ≤ h0.size := Nat.le_refl _
  have CR0 : CHr Z own_EL s.vm h0 s.vm h0 := CHr.refl hCH
  have Sf_a1 := hSL a1 (List.mem_of_getElem? (i := 0) rfl)
  have e0 : s₁.heap = h0 := by rw [← hh, Bd.state]; rfl
  have N0 := Fr.nil n0
  show Gl p.tables e below _ _
  refine Gl.pre (fun t k => castTop (ef_si0_0 m a1 a2) k) ?_
  refine Gl.gen (fun PP hPP => ?_)
  have K0 : Keep h0 h0 [a1] := Keep.refl h0 _
  show Gl p.tables e below PP (s₁.setTop (mkF m 0 #[.val (.ref a1), .val (.ref a2), .val (.int (0 : Int32)), .val (.int (0 : Int32)), .val .null, .unset] []))
  refine Y.aloadN X0 hx (hb hby d4_0) rfl rfl ?_
  obtain ⟨T1, X1, e1, st1⟩ := initO X0 hx hZ0 hown0 (W 20 rfl) (W 21 rfl) (W 22 rfl) e0 (g := (mkF m 1 #[.val (.ref a1), .val (.ref a2), .val (.int (0 : Int32)), .val (.int (0 : Int32)), .val .null, .unset] [(.ref a1)])) rfl (by rw [hml]; rfl) rfl (hb hby d4_1) (by decide) (W := 0) (by show 2 * 0 + _ ≤ _; exact Nat.le_of_eq rfl) (by decide)
  refine Gl.pre (fun _ k => st1 _ k) ?_
  refine Y.iloadN X1 hx (hb hby d4_4) rfl ?_
  refine Y.ifNo X1 hx (hb hby d4_5) rfl ((if0 _ _).trans (teq (show (0 : Int32) = (0 : Int32) from (by decide))).2) ?_
  refine Y.aloadN X1 hx (hb hby d4_8) rfl rfl ?_
  obtain ⟨la2, T2, h2, q2, lb2, kb2, X2, e2, E2, hS2, hk2, hZ2, hown2, Es2, Fc2, Fv2, Va2, -, -, CR2c, Li2, hne2, st2⟩ := ldcCH X1 hx hZ0 hown0 (W 39 rfl) (own_wS hw) e1 hS0 hk0 hEL (by simp [own_EL, consts_1]) CR0.1 (vs := [].map Value.int) (z := (0 : Int32)) ⟨by decide, by decide⟩ (by decide) (by decide) (g := (mkF m 9 #[.val (.ref a1), .val (.ref a2), .val (.int (0 : Int32)), .val (.int (0 : Int32)), .val .null, .unset] [(.ref a1)])) rfl (hb hby d4_9) (n := 0) (by decide) (by decide) (by decide) (by decide)
  refine Gl.pre (fun _ k => st2 _ k) ?_
  have Sf_a1 := CR2c.safe E_a1.lt Sf_a1
  have own_ne_a1_la2 := (hne2 _ Sf_a1).1
  have own_ne_a1_lb2 := (hne2 _ Sf_a1).2
  have own_ne_la2_a1 := own_ne_a1_la2.symm
  have own_ne_lb2_a1 := own_ne_a1_lb2.symm
  have E_a1 := E_a1.ext E2
  have F_value_a1 := F_value_a1.ext E2
  have F_coder_a1 := F_coder_a1.ext E2
  have CR2 := CR0.trans CR2c
  have Z2 : n0 ≤ h2.size := Nat.le_trans Z0 E2.1
  have K2 := K0.ext E2
  have V_lb2 : Bal Z h2 lb2 .byte [] := own_balOf Va2 (by decide)
  have E_lb2 : Exa Z h2 lb2 "[B" := own_litB hZ2 (W 39 rfl) hown2 Li2 (by simp [own_EL, consts_1]) CR2c.1 Fv2 Va2
  show Gl p.tables e below PP (T2.setTop (mkF m 11 #[.val (.ref a1), .val (.ref a2), .val (.int (0 : Int32)), .val (.int (0 : Int32)), .val .null, .unset] [(.ref la2), (.ref a1)]))
  obtain ⟨T3, X3, e3, st3⟩ := getF X2 hx hZ2 hown2 (host := "") (Or.inl (W 37 rfl)) Via.refl e2 Fv2 (g := (mkF m 11 #[.val (.ref a1), .val (.ref a2), .val (.int (0 : Int32)), .val (.int (0 : Int32)), .val .null, .unset] [(.ref la2), (.ref a1)])) rfl rfl (hb hby d4_11)
  refine Gl.pre (fun _ k => st3 _ k) ?_
  obtain ⟨T4, h4, X4, e4, W4, st4⟩ := putF X3 hx hZ2 hown2 (host := "") (Or.inl (W 37 rfl)) Via.refl e3 F_value_a1 E_a1 (Or.inr ⟨(W 38 rfl), rfl, hnm⟩) (W 7 rfl) (ty := (.array .byte)) (by decide) rfl rfl (g := (mkF m 14 #[.val (.ref a1), .val (.ref a2), .val (.int (0 : Int32)), .val (.int (0 : Int32)), .val .null, .unset] [(.ref lb2), (.ref a1)])) rfl rfl (hb hby d4_14)
  refine Gl.pre (fun _ k => st4 _ k) ?_
  have CR4 := CR2.trans (CHr.wr W4 Sf_a1 CR2.1)
  have Sf_a1 := Safe.wr W4 Sf_a1 CR2.1 Sf_a1
  have E_a1 := E_a1.wr W4
  have F_value_a1 := F_value_a1.same W4
  have F_coder_a1 := F_coder_a1.other W4 (Or.inr (slot_ne (Or.inr (W 36 rfl)) (Or.inr (W 38 rfl)) (by decide) (t := .byte) (t' := (.array .byte)) (by decide) (by decide)))
  have Es2 := Es2.wr W4
  have Fc2 := Fc2.other W4 (Or.inl (own_ne_la2_a1))
  have Fv2 := Fv2.other W4 (Or.inl (own_ne_la2_a1))
  have V_lb2 := V_lb2.other W4 (own_ne_lb2_a1)
  have E_lb2 := E_lb2.wr W4
  have Z4 : n0 ≤ h4.size := by rw [W4.size]; exact Z2
  have hk4 := Nat.le_trans hk2 (Nat.le_of_eq W4.size.symm)
  have N4 := Fr.snoc X4 N0 g_a1
  have K4 := K2.wr W4 (Or.inl (List.mem_of_getElem? (i := 0) rfl))
  refine Y.aloadN X4 hx (hb hby d4_17) rfl rfl ?_
  obtain ⟨la5, T5, h5, q5, lb5, kb5, X5, e5, E5, hS5, hk5, hZ5, hown5, Es5, Fc5, Fv5, Va5, -, -, CR5c, Li5, hne5, st5⟩ := ldcCH X4 hx hZ2 hown2 (W 39 rfl) (own_wS hw) e4 hS2 hk4 hEL (by simp [own_EL, consts_1]) CR4.1 (vs := [].map Value.int) (z := (0 : Int32)) ⟨by decide, by decide⟩ (by decide) (by decide) (g := (mkF m 18 #[.val (.ref a1), .val (.ref a2), .val (.int (0 : Int32)), .val (.int (0 : Int32)), .val .null, .unset] [(.ref a1)])) rfl (hb hby d4_18) (n := 0) (by decide) (by decide) (by decide) (by decide)
  refine Gl.pre (fun _ k => st5 _ k) ?_
  have Sf_a1 := CR5c.safe E_a1.lt Sf_a1
  have own_ne_a1_la5 := (hne5 _ Sf_a1).1
  have own_ne_a1_lb5 := (hne5 _ Sf_a1).2
  have own_ne_la5_a1 := own_ne_a1_la5.symm
  have own_ne_lb5_a1 := own_ne_a1_lb5.symm
  have E_a1 := E_a1.ext E5
  have F_value_a1 := F_value_a1.ext E5
  have F_coder_a1 := F_coder_a1.ext E5
  have Es2 := Es2.ext E5
  have Fc2 := Fc2.ext E5
  have Fv2 := Fv2.ext E5
  have V_lb2 := V_lb2.ext E5
  have E_lb2 := E_lb2.ext E5
  have CR5 := CR4.trans CR5c
  have Z5 : n0 ≤ h5.size := Nat.le_trans Z4 E5.1
  have K5 := K4.ext E5
  have V_lb5 : Bal Z h5 lb5 .byte [] := own_balOf Va5 (by decide)
  have E_lb5 : Exa Z h5 lb5 "[B" := own_litB hZ5 (W 39 rfl) hown5 Li5 (by simp [own_EL, consts_1]) CR5c.1 Fv5 Va5
  show Gl p.tables e below PP (T5.setTop (mkF m 20 #[.val (.ref a1), .val (.ref a2), .val (.int (0 : Int32)), .val (.int (0 : Int32)), .val .null, .unset] [(.ref la5), (.ref a1)]))
  obtain ⟨T6, X6, e6, st6⟩ := getF X5 hx hZ5 hown5 (host := "") (Or.inl (W 35 rfl)) Via.refl e5 Fc5 (g := (mkF m 20 #[.val (.ref a1), .val (.ref a2), .val (.int (0 : Int32)), .val (.int (0 : Int32)), .val .null, .unset] [(.ref la5), (.ref a1)])) rfl rfl (hb hby d4_20)
  refine Gl.pre (fun _ k => st6 _ k) ?_
  obtain ⟨T7, h7, X7, e7, W7, st7⟩ := putFN X6 hx hZ5 hown5 (W 35 rfl) Via.refl e6 F_coder_a1 E_a1 (Or.inr ⟨(W 36 rfl), rfl, hnm⟩) (W 7 rfl) (ty := .byte) (v' := (.int (0 : Int32))) (by decide) rfl rfl (g := (mkF m 23 #[.val (.ref a1), .val (.ref a2), .val (.int (0 : Int32)), .val (.int (0 : Int32)), .val .null, .unset] [(.int (0 : Int32)), (.ref a1)])) rfl rfl (hb hby d4_23)
  refine Gl.pre (fun _ k => st7 _ k) ?_
  have CR7 := CR5.trans (CHr.wr W7 Sf_a1 CR5.1)
  have Sf_a1 := Safe.wr W7 Sf_a1 CR5.1 Sf_a1
  have E_a1 := E_a1.wr W7
  have F_value_a1 := F_value_a1.other W7 (Or.inr (slot_ne (Or.inr (W 38 rfl)) (Or.inr (W 36 rfl)) (by decide) (t := (.array .byte)) (t' := .byte) (by decide) (by decide)))
  have F_coder_a1 := F_coder_a1.same W7
  have Es2 := Es2.wr W7
  have Fc2 := Fc2.other W7 (Or.inl (own_ne_la2_a1))
  have Fv2 := Fv2.other W7 (Or.inl (own_ne_la2_a1))
  have V_lb2 := V_lb2.other W7 (own_ne_lb2_a1)
  have E_lb2 := E_lb2.wr W7
  have Es5 := Es5.wr W7
  have Fc5 := Fc5.other W7 (Or.inl (own_ne_la5_a1))
  have Fv5 := Fv5.other W7 (Or.inl (own_ne_la5_a1))
  have V_lb5 := V_lb5.other W7 (own_ne_lb5_a1)
  have E_lb5 := E_lb5.wr W7
  have Z7 : n0 ≤ h7.size := by rw [W7.size]; exact Z5
  have hk7 := Nat.le_trans hk5 (Nat.le_of_eq W7.size.symm)
  have N7 := Fr.snoc X7 N4 g_a1
  have K7 := K5.wr W7 (Or.inl (List.mem_of_getElem? (i := 0) rfl))
  rw [hPP]
  refine own_finVW (Q := (Qsi0_0 Z a1 a2 h0 n0)) (Z := Z) (EL := own_EL) X7 hx hlk hS5 (by rw [e7]; exact hk7) Bd.returns (hb hby d4_26) ?_ (by rw [hh, e7]; exact CR7.trans (CHv.at X7 hZ5 hEL CR7.1)) (by decide) (by decide)
  show Qsi0_0 Z a1 a2 h0 n0 _ T7.heap _
  rw [e7]
  exact ⟨rfl, N7, K7, lb2, F_value_a1, F_coder_a1, V_lb2, E_lb2⟩
theorem d3_0 : decode jdk_42_method_3_code 0 = .ok (.aload_n 0, 1) := by decide +kernel
theorem d3_1 : decode jdk_42_method_3_code 1 = .ok (.aload_n 1, 1) := by decide +kernel
theorem d3_2 : decode jdk_42_method_3_code 2 = .ok (.iconst 0, 1) := by decide +kernel
theorem d3_3 : decode jdk_42_method_3_code 3 = .ok (.aload_n 1, 1) := by decide +kernel
theorem d3_4 : decode jdk_42_method_3_code 4 = .ok (.arraylength, 1) := by decide +kernel
theorem d3_5 : decode jdk_42_method_3_code 5 = .ok (.aconst_null, 1) := by decide +kernel
theorem d3_6 : decode jdk_42_method_3_code 6 = .ok (.invokespecial 27, 3) := by decide +kernel
theorem d3_9 : decode jdk_42_method_3_code 9 = .ok (.return_, 1) := by decide +kernel
theorem pn_3 : plainName "java/lang/String" = true := by first | (simp [plainName, overriddenIn]; done) | decide +kernel
theorem ef_sS (m : MethodId) (a1 : Addr) (a2 : Addr) (cs : Int32) (xs : List Int32) : entryFrame m #[(.ref a1), (.ref a2)] 2 = mkF m 0 #[.val (.ref a1), .val (.ref a2)] [] := by first | (simp [entryFrame, mkF, argsToLocals, Value.category]; done) | rfl
def QsS (Z : State) (a1 : Addr) (a2 : Addr) (cs : Int32) (xs : List Int32) (h0 : Heap) (n0 : Nat) (v : Option Value) (h : Heap) (L : List Loc) : Prop := v = none ∧ Fr n0 L ∧ Keep h0 h [a1] ∧ ∃ (vb : Addr) (ys : List Int32) (co : Int32), own_rep xs co ys ∧ Fld Z h a1 "java/lang/String" "value" "[B" (.ref vb) ∧ Fld Z h a1 "java/lang/String" "coder" "B" (.int co) ∧ Bal Z h vb .byte ys ∧ Exa Z h vb "[B"
set_option maxRecDepth 65536 in
set_option maxHeartbeats 40000000 in
theorem rmsS (l : Launch) (Z : State) (a0 : Array Value) (hw : ∀ d ∈ tables_1, d.before a0 Z = true) (ws : List Jvm.Cond) (a1 : Addr) (a2 : Addr) (cs : Int32) (xs : List Int32) (h0 : Heap) (n0 : Nat) (Z0 : n0 ≤ h0.size) (E_a1 : Exa Z h0 a1 "java/lang/String") (F_value_a1 : Fld Z h0 a1 "java/lang/String" "value" "[B" .null) (F_coder_a1 : Fld Z h0 a1 "java/lang/String" "coder" "B" (.int (0 : Int32))) (g_a1 : n0 ≤ a1) (V_a2 : Bal Z h0 a2 .char xs) (hxs : own_sh xs) (own_ne_a1_a2 : a1 ≠ a2) (own_ne_a2_a1 : a2 ≠ a1) (SBC : Sta Z Z.heap "java/lang/String" "COMPACT_STRINGS" "Z" (.int cs)) (hcs : ¬ (cs = (0 : Int32))) (SAD : Sta Z Z.heap "java/lang/StringUTF16" "$assertionsDisabled" "Z" (.int (1 : Int32))) (SHI : Sta Z Z.heap "java/lang/StringUTF16" "HI_BYTE_SHIFT" "I" (.int (0 : Int32))) (SLO : Sta Z Z.heap "java/lang/StringUTF16" "LO_BYTE_SHIFT" "I" (.int (8 : Int32))) (O_ : Old Z n0 h0) (hEL : EW Z a0 own_EL) :
    MetFree l (⟨"java/lang/String", "<init>", "([C)V"⟩ : MethodName) (head1 (Jvm.Cond.code (⟨"java/lang/String", "<init>", "([C)V"⟩ : MethodName) jdk_42_method_3_code 2 none :: ws) ({ frames := 5, cells := 4, slots := 8, locals := 74 } : Room)) (fun a U => a = #[(.ref a1), (.ref a2)] ∧ Z.Warmed39 U.vm ∧ U.heap = h0 ∧ CHv Z own_EL U.vm h0 ∧ ∀ x ∈ ([a1] : List Addr), Safe Z own_EL U.vm h0 x) (fun _ _ _ _ _ => True) (fun _ U o U' => ∃ v L, o = .returned v ∧ QsS Z a1 a2 cs xs h0 n0 v U'.heap L ∧ CHr Z own_EL U.vm U.heap U'.vm U'.heap ∧ ReturnedEndW U o U' L ({ frames := 5, cells := 4, slots := 8, locals := 74 } : Room).cells ({ frames := 5, cells := 4, slots := 8, locals := 74 } : Room).slots) := by
  have W := @own_wd Z a0 hw
  refine MetFree.of_bodySF (plainFor_of_name pn_3) hisR ?_
  intro p e s m args below meth c s₁ Bd hml0 hP hK
  obtain ⟨rfl, hZ, hh, hCH, hSL⟩ := hP
  have hx := Bd.exec
  have hby := Bd.bytes
  have hlk : meth.locks = false := BodyLoose.notSynchronized Bd
  have hml : c.maxLocals = 2 := hml0
  have hown : s.vm.findClass "java/lang/String" = some m.cls := findClass_of_methodNamed Bd.named
  have hnm := (name_of_methodNamed Bd.named Bd.method).1
  have X0 : Stand p l e ({ frames := 5, cells := 4, slots := 8, locals := 74 } : Room) (s.setVm s.vm) m #[(.ref a1), (.ref a2)] below meth c s₁ [] 0 0 := Stand.of_body Bd
  have hZ0 : Z.Warmed39 (s.setVm s.vm).vm := hZ
  have hown0 : (s.setVm s.vm).vm.findClass "java/lang/String" = some m.cls := hown
  have hS0 : s.Since s.vm h0.size := (State.WarmedH.refl s).since _
  have hk0 : h0.size ≤ h0.size := Nat.le_refl _
  have CR0 : CHr Z own_EL s.vm h0 s.vm h0 := CHr.refl hCH
  have Sf_a1 := hSL a1 (List.mem_of_getElem? (i := 0) rfl)
  have e0 : s₁.heap = h0 := by rw [← hh, Bd.state]; rfl
  have N0 := Fr.nil n0
  show Gl p.tables e below _ _
  refine Gl.pre (fun t k => castTop (ef_sS m a1 a2 cs xs) k) ?_
  refine Gl.gen (fun PP hPP => ?_)
  have K0 : Keep h0 h0 [a1] := Keep.refl h0 _
  show Gl p.tables e below PP (s₁.setTop (mkF m 0 #[.val (.ref a1), .val (.ref a2)] []))
  rcases hxs with hxe | ⟨c0, hxe, hr0⟩ | ⟨c0, c1, hxe, hr0, hr1⟩
  rw [hxe] at V_a2
  show Gl p.tables e below PP (s₁.setTop (mkF m 0 #[.val (.ref a1), .val (.ref a2)] []))
  refine Y.aloadN X0 hx (hb hby d3_0) rfl rfl ?_
  refine Y.aloadN X0 hx (hb hby d3_1) rfl rfl ?_
  refine Y.iconst X0 hx (hb hby d3_2) ?_
  refine Y.aloadN X0 hx (hb hby d3_3) rfl rfl ?_
  refine Gl.pre (fun _ k => own_len X0 hx hZ0 e0 V_a2 (v := (0 : Int32)) rfl (g := (mkF m 4 #[.val (.ref a1), .val (.ref a2)] [(.ref a2), (.int (0 : Int32)), (.ref a2), (.ref a1)])) rfl rfl (hb hby d3_4) _ k) ?_
  refine Y.aconstNull X0 hx (hb hby d3_5) ?_
  obtain ⟨_, _, ⟨T1, L1, k1, n1⟩, -, X1, hS1c, hg1, ⟨Lc1, hQ1, l1, y1, z1, CR1c⟩, st1⟩ := X0.specialBackS hx (y := (⟨"java/lang/String", "<init>", "([CIILjava/lang/Void;)V"⟩ : MethodName)) rfl hown0 (mvT hZ0 (W 16 rfl)) (mvT hZ0 (W 17 rfl)) (mvT hZ0 (W 19 rfl)) (by decide) (own_backH (W := 0) (rmsi0_0 l Z a0 hw [] a1 a2 h0 n0 Z0 E_a1 F_value_a1 F_coder_a1 g_a1 hEL) hZ0 (W 19 rfl) (W 8 rfl) (by decide) (by decide) hEL CR0.1 (allS ⟨E_a1.lt, Sf_a1⟩ all0)) (g := (mkF m 6 #[.val (.ref a1), .val (.ref a2)] [.null, (.int (0 : Int32)), (.int (0 : Int32)), (.ref a2), (.ref a1)])) rfl (by rw [hml]; rfl) (Steps.refl _) (a := a1) (argsL := [(.ref a2), (.int (0 : Int32)), (.int (0 : Int32)), .null]) (rest := []) (lenOf pd_7 rfl) rfl (by show 2 * 0 + _ ≤ _; exact Nat.le_of_eq rfl) (hb hby d3_6) (fun _ _ => ⟨rfl, e0, (by decide : 0 + 4 ≤ _), (by decide : 0 + 8 ≤ _)⟩)
  dsimp only [Pt.U, Pt.locs, Pt.cells, Pt.slots] at X1 l1 y1 z1 st1 hQ1 hS1c hg1 CR1c
  subst l1 y1 z1
  have X1 : Stand p l e ({ frames := 5, cells := 4, slots := 8, locals := 74 } : Room) (s.setVm T1.vm) m #[(.ref a1), (.ref a2)] below meth c T1 _ _ _ := X1
  have hS1 := foldS hS0 (Nat.le_trans hk0 (Nat.le_of_eq (congrArg Array.size e0.symm))) hS1c hg1
  have hZ1 : Z.Warmed39 (s.setVm T1.vm).vm := State.Warmed39.trans (t := s.setVm s.vm) hZ0 hS1c.1
  have hown1 : (s.setVm T1.vm).vm.findClass "java/lang/String" = some m.cls := by rw [show (s.setVm T1.vm).vm = T1.vm from rfl, hS1c.1.alike.findClass]; exact hown0
  have Sf_a1 := CR1c.safe E_a1.lt Sf_a1
  have CR1 := CR0.trans CR1c
  obtain ⟨rfl, N1q, K1, vb1, Fv1, Fc1, Vs1, Es1⟩ := hQ1
  have N1 := Fr.app N0 N1q
  refine Gl.pre (fun _ k => st1.trans k) ?_
  have E_a1 := E_a1.keep K1
  have V_a2 := V_a2.keep K1 (ninS (own_ne_a2_a1) nin0)
  have O_ := O_.keep K1 (allS g_a1 all0)
  have Z1 : n0 ≤ T1.heap.size := Nat.le_trans Z0 K1.1
  have K1k := K0.trans K1 (allS (Or.inl (List.mem_of_getElem? (i := 0) rfl)) all0)
  have F_value_a1 := Fv1
  have F_coder_a1 := Fc1
  have V_vb1 := Vs1
  have E_vb1 := Es1
  rw [hPP]
  refine own_finVW (Q := (QsS Z a1 a2 cs xs h0 n0)) (Z := Z) (EL := own_EL) X1 hx hlk hS1 (Nat.le_refl _) Bd.returns (hb hby d3_9) ?_ (by rw [hh]; exact CR1.trans (CHv.at X1 hZ1 hEL CR1.1)) (by decide) (by decide)
  show QsS Z a1 a2 cs xs h0 n0 _ T1.heap _
  exact ⟨rfl, N1, K1k, vb1, _, _, Or.inl ⟨hxe, rfl, rfl⟩, F_value_a1, F_coder_a1, V_vb1, E_vb1⟩
  rw [hxe] at V_a2
  by_cases hc0 : (255 : Int32) < c0
  show Gl p.tables e below PP (s₁.setTop (mkF m 0 #[.val (.ref a1), .val (.ref a2)] []))
  refine Y.aloadN X0 hx (hb hby d3_0) rfl rfl ?_
  refine Y.aloadN X0 hx (hb hby d3_1) rfl rfl ?_
  refine Y.iconst X0 hx (hb hby d3_2) ?_
  refine Y.aloadN X0 hx (hb hby d3_3) rfl rfl ?_
  refine Gl.pre (fun _ k => own_len X0 hx hZ0 e0 V_a2 (v := (1 : Int32)) rfl (g := (mkF m 4 #[.val (.ref a1), .val (.ref a2)] [(.ref a2), (.int (0 : Int32)), (.ref a2), (.ref a1)])) rfl rfl (hb hby d3_4) _ k) ?_
  refine Y.aconstNull X0 hx (hb hby d3_5) ?_
  obtain ⟨_, _, ⟨T2, L2, k2, n2⟩, -, X2, ⟨Lc2, hQ2, l2, y2, z2⟩, st2⟩ := X0.specialBack hx (y := (⟨"java/lang/String", "<init>", "([CIILjava/lang/Void;)V"⟩ : MethodName)) rfl hown0 (mvT hZ0 (W 16 rfl)) (mvT hZ0 (W 17 rfl)) (mvT hZ0 (W 19 rfl)) (by decide) (backOf (W := 0) (rmsi1_0 l Z a0 hw [] a1 a2 cs c0 h0 n0 Z0 E_a1 F_value_a1 F_coder_a1 g_a1 V_a2 own_ne_a1_a2 own_ne_a2_a1 hr0 hc0 SBC hcs SAD SHI SLO O_) hZ0 (W 19 rfl) (W 8 rfl) (by decide) (by decide)) (g := (mkF m 6 #[.val (.ref a1), .val (.ref a2)] [.null, (.int (1 : Int32)), (.int (0 : Int32)), (.ref a2), (.ref a1)])) rfl (by rw [hml]; rfl) (Steps.refl _) (a := a1) (argsL := [(.ref a2), (.int (0 : Int32)), (.int (1 : Int32)), .null]) (rest := []) (lenOf pd_7 rfl) rfl (by show 2 * 0 + _ ≤ _; exact Nat.le_of_eq rfl) (hb hby d3_6) (fun _ _ => ⟨rfl, e0, (by decide : 0 + 2 ≤ _), (by decide : 0 + 3 ≤ _)⟩)
  dsimp only [Pt.U, Pt.locs, Pt.cells, Pt.slots] at X2 l2 y2 z2 st2 hQ2
  subst l2 y2 z2
  obtain ⟨rfl, N2q, K2, vb2, Fv2, Fc2, Vs2, Es2⟩ := hQ2
  have N2 := Fr.app N0 N2q
  refine Gl.pre (fun _ k => st2.trans k) ?_
  have hs2 : ∀ x ∈ [a1], Safe Z own_EL _ _ x := (allS Sf_a1 all0)
  have Sf_a1 := Safe.keep K2 hs2 CR0.1 Sf_a1
  have CR2 := CR0.trans (CHr.keep K2 hs2 CR0.1)
  have E_a1 := E_a1.keep K2
  have V_a2 := V_a2.keep K2 (ninS (own_ne_a2_a1) nin0)
  have O_ := O_.keep K2 (allS g_a1 all0)
  have hk2 := Nat.le_trans hk0 K2.1
  have Z2 : n0 ≤ T2.heap.size := Nat.le_trans Z0 K2.1
  have K2k := K0.trans K2 (allS (Or.inl (List.mem_of_getElem? (i := 0) rfl)) all0)
  have F_value_a1 := Fv2
  have F_coder_a1 := Fc2
  have V_vb2 := Vs2
  have E_vb2 := Es2
  rw [hPP]
  refine own_finVW (Q := (QsS Z a1 a2 cs xs h0 n0)) (Z := Z) (EL := own_EL) X2 hx hlk hS0 hk2 Bd.returns (hb hby d3_9) ?_ (by rw [hh]; exact CR2.trans (CHv.at X2 hZ0 hEL CR2.1)) (by decide) (by decide)
  show QsS Z a1 a2 cs xs h0 n0 _ T2.heap _
  exact ⟨rfl, N2, K2k, vb2, _, _, Or.inr (Or.inr (Or.inl ⟨c0, hxe, hr0, hc0, rfl, rfl⟩)), F_value_a1, F_coder_a1, V_vb2, E_vb2⟩
  show Gl p.tables e below PP (s₁.setTop (mkF m 0 #[.val (.ref a1), .val (.ref a2)] []))
  show Gl p.tables e below PP (s₁.setTop (mkF m 0 #[.val (.ref a1), .val (.ref a2)] []))
  refine Y.aloadN X0 hx (hb hby d3_0) rfl rfl ?_
  refine Y.aloadN X0 hx (hb hby d3_1) rfl rfl ?_
  refine Y.iconst X0 hx (hb hby d3_2) ?_
  refine Y.aloadN X0 hx (hb hby d3_3) rfl rfl ?_
  refine Gl.pre (fun _ k => own_len X0 hx hZ0 e0 V_a2 (v := (1 : Int32)) rfl (g := (mkF m 4 #[.val (.ref a1), .val (.ref a2)] [(.ref a2), (.int (0 : Int32)), (.ref a2), (.ref a1)])) rfl rfl (hb hby d3_4) _ k) ?_
  refine Y.aconstNull X0 hx (hb hby d3_5) ?_
  obtain ⟨_, _, ⟨T3, L3, k3, n3⟩, -, X3, ⟨Lc3, hQ3, l3, y3, z3⟩, st3⟩ := X0.specialBack hx (y := (⟨"java/lang/String", "<init>", "([CIILjava/lang/Void;)V"⟩ : MethodName)) rfl hown0 (mvT hZ0 (W 16 rfl)) (mvT hZ0 (W 17 rfl)) (mvT hZ0 (W 19 rfl)) (by decide) (backOf (W := 0) (rmsi1_1 l Z a0 hw [] a1 a2 cs c0 h0 n0 Z0 E_a1 F_value_a1 F_coder_a1 g_a1 V_a2 own_ne_a1_a2 own_ne_a2_a1 hr0 hc0 SBC hcs SAD SHI SLO O_) hZ0 (W 19 rfl) (W 8 rfl) (by decide) (by decide)) (g := (mkF m 6 #[.val (.ref a1), .val (.ref a2)] [.null, (.int (1 : Int32)), (.int (0 : Int32)), (.ref a2), (.ref a1)])) rfl (by rw [hml]; rfl) (Steps.refl _) (a := a1) (argsL := [(.ref a2), (.int (0 : Int32)), (.int (1 : Int32)), .null]) (rest := []) (lenOf pd_7 rfl) rfl (by show 2 * 0 + _ ≤ _; exact Nat.le_of_eq rfl) (hb hby d3_6) (fun _ _ => ⟨rfl, e0, (by decide : 0 + 1 ≤ _), (by decide : 0 + 1 ≤ _)⟩)
  dsimp only [Pt.U, Pt.locs, Pt.cells, Pt.slots] at X3 l3 y3 z3 st3 hQ3
  subst l3 y3 z3
  obtain ⟨rfl, N3q, K3, vb3, Fv3, Fc3, Vs3, Es3⟩ := hQ3
  have N3 := Fr.app N0 N3q
  refine Gl.pre (fun _ k => st3.trans k) ?_
  have hs3 : ∀ x ∈ [a1], Safe Z own_EL _ _ x := (allS Sf_a1 all0)
  have Sf_a1 := Safe.keep K3 hs3 CR0.1 Sf_a1
  have CR3 := CR0.trans (CHr.keep K3 hs3 CR0.1)
  have E_a1 := E_a1.keep K3
  have V_a2 := V_a2.keep K3 (ninS (own_ne_a2_a1) nin0)
  have O_ := O_.keep K3 (allS g_a1 all0)
  have hk3 := Nat.le_trans hk0 K3.1
  have Z3 : n0 ≤ T3.heap.size := Nat.le_trans Z0 K3.1
  have K3k := K0.trans K3 (allS (Or.inl (List.mem_of_getElem? (i := 0) rfl)) all0)
  have F_value_a1 := Fv3
  have F_coder_a1 := Fc3
  have V_vb3 := Vs3
  have E_vb3 := Es3
  rw [hPP]
  refine own_finVW (Q := (QsS Z a1 a2 cs xs h0 n0)) (Z := Z) (EL := own_EL) X3 hx hlk hS0 hk3 Bd.returns (hb hby d3_9) ?_ (by rw [hh]; exact CR3.trans (CHv.at X3 hZ0 hEL CR3.1)) (by decide) (by decide)
  show QsS Z a1 a2 cs xs h0 n0 _ T3.heap _
  exact ⟨rfl, N3, K3k, vb3, _, _, Or.inr (Or.inl ⟨c0, hxe, hr0, hc0, rfl, rfl⟩), F_value_a1, F_coder_a1, V_vb3, E_vb3⟩
  rw [hxe] at V_a2
  by_cases hc0 : (255 : Int32) < c0
  show Gl p.tables e below PP (s₁.setTop (mkF m 0 #[.val (.ref a1), .val (.ref a2)] []))
  refine Y.aloadN X0 hx (hb hby d3_0) rfl rfl ?_
  refine Y.aloadN X0 hx (hb hby d3_1) rfl rfl ?_
  refine Y.iconst X0 hx (hb hby d3_2) ?_
  refine Y.aloadN X0 hx (hb hby d3_3) rfl rfl ?_
  refine Gl.pre (fun _ k => own_len X0 hx hZ0 e0 V_a2 (v := (2 : Int32)) rfl (g := (mkF m 4 #[.val (.ref a1), .val (.ref a2)] [(.ref a2), (.int (0 : Int32)), (.ref a2), (.ref a1)])) rfl rfl (hb hby d3_4) _ k) ?_
  refine Y.aconstNull X0 hx (hb hby d3_5) ?_
  obtain ⟨_, _, ⟨T4, L4, k4, n4⟩, -, X4, ⟨Lc4, hQ4, l4, y4, z4⟩, st4⟩ := X0.specialBack hx (y := (⟨"java/lang/String", "<init>", "([CIILjava/lang/Void;)V"⟩ : MethodName)) rfl hown0 (mvT hZ0 (W 16 rfl)) (mvT hZ0 (W 17 rfl)) (mvT hZ0 (W 19 rfl)) (by decide) (backOf (W := 0) (rmsi2_0 l Z a0 hw [] a1 a2 cs c0 c1 h0 n0 Z0 E_a1 F_value_a1 F_coder_a1 g_a1 V_a2 own_ne_a1_a2 own_ne_a2_a1 hr0 hr1 hc0 SBC hcs SAD SHI SLO O_) hZ0 (W 19 rfl) (W 8 rfl) (by decide) (by decide)) (g := (mkF m 6 #[.val (.ref a1), .val (.ref a2)] [.null, (.int (2 : Int32)), (.int (0 : Int32)), (.ref a2), (.ref a1)])) rfl (by rw [hml]; rfl) (Steps.refl _) (a := a1) (argsL := [(.ref a2), (.int (0 : Int32)), (.int (2 : Int32)), .null]) (rest := []) (lenOf pd_7 rfl) rfl (by show 2 * 0 + _ ≤ _; exact Nat.le_of_eq rfl) (hb hby d3_6) (fun _ _ => ⟨rfl, e0, (by decide : 0 + 2 ≤ _), (by decide : 0 + 6 ≤ _)⟩)
  dsimp only [Pt.U, Pt.locs, Pt.cells, Pt.slots] at X4 l4 y4 z4 st4 hQ4
  subst l4 y4 z4
  obtain ⟨rfl, N4q, K4, vb4, Fv4, Fc4, Vs4, Es4⟩ := hQ4
  have N4 := Fr.app N0 N4q
  refine Gl.pre (fun _ k => st4.trans k) ?_
  have hs4 : ∀ x ∈ [a1], Safe Z own_EL _ _ x := (allS Sf_a1 all0)
  have Sf_a1 := Safe.keep K4 hs4 CR0.1 Sf_a1
  have CR4 := CR0.trans (CHr.keep K4 hs4 CR0.1)
  have E_a1 := E_a1.keep K4
  have V_a2 := V_a2.keep K4 (ninS (own_ne_a2_a1) nin0)
  have O_ := O_.keep K4 (allS g_a1 all0)
  have hk4 := Nat.le_trans hk0 K4.1
  have Z4 : n0 ≤ T4.heap.size := Nat.le_trans Z0 K4.1
  have K4k := K0.trans K4 (allS (Or.inl (List.mem_of_getElem? (i := 0) rfl)) all0)
  have F_value_a1 := Fv4
  have F_coder_a1 := Fc4
  have V_vb4 := Vs4
  have E_vb4 := Es4
  rw [hPP]
  refine own_finVW (Q := (QsS Z a1 a2 cs xs h0 n0)) (Z := Z) (EL := own_EL) X4 hx hlk hS0 hk4 Bd.returns (hb hby d3_9) ?_ (by rw [hh]; exact CR4.trans (CHv.at X4 hZ0 hEL CR4.1)) (by decide) (by decide)
  show QsS Z a1 a2 cs xs h0 n0 _ T4.heap _
  exact ⟨rfl, N4, K4k, vb4, _, _, Or.inr (Or.inr (Or.inr (Or.inr ⟨c0, c1, hxe, hr0, hr1, rfl, rfl⟩))), F_value_a1, F_coder_a1, V_vb4, E_vb4⟩
  show Gl p.tables e below PP (s₁.setTop (mkF m 0 #[.val (.ref a1), .val (.ref a2)] []))
  by_cases hc1 : (255 : Int32) < c1
  show Gl p.tables e below PP (s₁.setTop (mkF m 0 #[.val (.ref a1), .val (.ref a2)] []))
  refine Y.aloadN X0 hx (hb hby d3_0) rfl rfl ?_
  refine Y.aloadN X0 hx (hb hby d3_1) rfl rfl ?_
  refine Y.iconst X0 hx (hb hby d3_2) ?_
  refine Y.aloadN X0 hx (hb hby d3_3) rfl rfl ?_
  refine Gl.pre (fun _ k => own_len X0 hx hZ0 e0 V_a2 (v := (2 : Int32)) rfl (g := (mkF m 4 #[.val (.ref a1), .val (.ref a2)] [(.ref a2), (.int (0 : Int32)), (.ref a2), (.ref a1)])) rfl rfl (hb hby d3_4) _ k) ?_
  refine Y.aconstNull X0 hx (hb hby d3_5) ?_
  obtain ⟨_, _, ⟨T5, L5, k5, n5⟩, -, X5, ⟨Lc5, hQ5, l5, y5, z5⟩, st5⟩ := X0.specialBack hx (y := (⟨"java/lang/String", "<init>", "([CIILjava/lang/Void;)V"⟩ : MethodName)) rfl hown0 (mvT hZ0 (W 16 rfl)) (mvT hZ0 (W 17 rfl)) (mvT hZ0 (W 19 rfl)) (by decide) (backOf (W := 0) (rmsi2_1 l Z a0 hw [] a1 a2 cs c0 c1 h0 n0 Z0 E_a1 F_value_a1 F_coder_a1 g_a1 V_a2 own_ne_a1_a2 own_ne_a2_a1 hr0 hr1 hc0 hc1 SBC hcs SAD SHI SLO O_) hZ0 (W 19 rfl) (W 8 rfl) (by decide) (by decide)) (g := (mkF m 6 #[.val (.ref a1), .val (.ref a2)] [.null, (.int (2 : Int32)), (.int (0 : Int32)), (.ref a2), (.ref a1)])) rfl (by rw [hml]; rfl) (Steps.refl _) (a := a1) (argsL := [(.ref a2), (.int (0 : Int32)), (.int (2 : Int32)), .null]) (rest := []) (lenOf pd_7 rfl) rfl (by show 2 * 0 + _ ≤ _; exact Nat.le_of_eq rfl) (hb hby d3_6) (fun _ _ => ⟨rfl, e0, (by decide : 0 + 2 ≤ _), (by decide : 0 + 6 ≤ _)⟩)
  dsimp only [Pt.U, Pt.locs, Pt.cells, Pt.slots] at X5 l5 y5 z5 st5 hQ5
  subst l5 y5 z5
  obtain ⟨rfl, N5q, K5, vb5, Fv5, Fc5, Vs5, Es5⟩ := hQ5
  have N5 := Fr.app N0 N5q
  refine Gl.pre (fun _ k => st5.trans k) ?_
  have hs5 : ∀ x ∈ [a1], Safe Z own_EL _ _ x := (allS Sf_a1 all0)
  have Sf_a1 := Safe.keep K5 hs5 CR0.1 Sf_a1
  have CR5 := CR0.trans (CHr.keep K5 hs5 CR0.1)
  have E_a1 := E_a1.keep K5
  have V_a2 := V_a2.keep K5 (ninS (own_ne_a2_a1) nin0)
  have O_ := O_.keep K5 (allS g_a1 all0)
  have hk5 := Nat.le_trans hk0 K5.1
  have Z5 : n0 ≤ T5.heap.size := Nat.le_trans Z0 K5.1
  have K5k := K0.trans K5 (allS (Or.inl (List.mem_of_getElem? (i := 0) rfl)) all0)
  have F_value_a1 := Fv5
  have F_coder_a1 := Fc5
  have V_vb5 := Vs5
  have E_vb5 := Es5
  rw [hPP]
  refine own_finVW (Q := (QsS Z a1 a2 cs xs h0 n0)) (Z := Z) (EL := own_EL) X5 hx hlk hS0 hk5 Bd.returns (hb hby d3_9) ?_ (by rw [hh]; exact CR5.trans (CHv.at X5 hZ0 hEL CR5.1)) (by decide) (by decide)
  show QsS Z a1 a2 cs xs h0 n0 _ T5.heap _
  exact ⟨rfl, N5, K5k, vb5, _, _, Or.inr (Or.inr (Or.inr (Or.inr ⟨c0, c1, hxe, hr0, hr1, rfl, rfl⟩))), F_value_a1, F_coder_a1, V_vb5, E_vb5⟩
  show Gl p.tables e below PP (s₁.setTop (mkF m 0 #[.val (.ref a1), .val (.ref a2)] []))
  show Gl p.tables e below PP (s₁.setTop (mkF m 0 #[.val (.ref a1), .val (.ref a2)] []))
  refine Y.aloadN X0 hx (hb hby d3_0) rfl rfl ?_
  refine Y.aloadN X0 hx (hb hby d3_1) rfl rfl ?_
  refine Y.iconst X0 hx (hb hby d3_2) ?_
  refine Y.aloadN X0 hx (hb hby d3_3) rfl rfl ?_
  refine Gl.pre (fun _ k => own_len X0 hx hZ0 e0 V_a2 (v := (2 : Int32)) rfl (g := (mkF m 4 #[.val (.ref a1), .val (.ref a2)] [(.ref a2), (.int (0 : Int32)), (.ref a2), (.ref a1)])) rfl rfl (hb hby d3_4) _ k) ?_
  refine Y.aconstNull X0 hx (hb hby d3_5) ?_
  obtain ⟨_, _, ⟨T6, L6, k6, n6⟩, -, X6, ⟨Lc6, hQ6, l6, y6, z6⟩, st6⟩ := X0.specialBack hx (y := (⟨"java/lang/String", "<init>", "([CIILjava/lang/Void;)V"⟩ : MethodName)) rfl hown0 (mvT hZ0 (W 16 rfl)) (mvT hZ0 (W 17 rfl)) (mvT hZ0 (W 19 rfl)) (by decide) (backOf (W := 0) (rmsi2_2 l Z a0 hw [] a1 a2 cs c0 c1 h0 n0 Z0 E_a1 F_value_a1 F_coder_a1 g_a1 V_a2 own_ne_a1_a2 own_ne_a2_a1 hr0 hr1 hc0 hc1 SBC hcs SAD SHI SLO O_) hZ0 (W 19 rfl) (W 8 rfl) (by decide) (by decide)) (g := (mkF m 6 #[.val (.ref a1), .val (.ref a2)] [.null, (.int (2 : Int32)), (.int (0 : Int32)), (.ref a2), (.ref a1)])) rfl (by rw [hml]; rfl) (Steps.refl _) (a := a1) (argsL := [(.ref a2), (.int (0 : Int32)), (.int (2 : Int32)), .null]) (rest := []) (lenOf pd_7 rfl) rfl (by show 2 * 0 + _ ≤ _; exact Nat.le_of_eq rfl) (hb hby d3_6) (fun _ _ => ⟨rfl, e0, (by decide : 0 + 1 ≤ _), (by decide : 0 + 2 ≤ _)⟩)
  dsimp only [Pt.U, Pt.locs, Pt.cells, Pt.slots] at X6 l6 y6 z6 st6 hQ6
  subst l6 y6 z6
  obtain ⟨rfl, N6q, K6, vb6, Fv6, Fc6, Vs6, Es6⟩ := hQ6
  have N6 := Fr.app N0 N6q
  refine Gl.pre (fun _ k => st6.trans k) ?_
  have hs6 : ∀ x ∈ [a1], Safe Z own_EL _ _ x := (allS Sf_a1 all0)
  have Sf_a1 := Safe.keep K6 hs6 CR0.1 Sf_a1
  have CR6 := CR0.trans (CHr.keep K6 hs6 CR0.1)
  have E_a1 := E_a1.keep K6
  have V_a2 := V_a2.keep K6 (ninS (own_ne_a2_a1) nin0)
  have O_ := O_.keep K6 (allS g_a1 all0)
  have hk6 := Nat.le_trans hk0 K6.1
  have Z6 : n0 ≤ T6.heap.size := Nat.le_trans Z0 K6.1
  have K6k := K0.trans K6 (allS (Or.inl (List.mem_of_getElem? (i := 0) rfl)) all0)
  have F_value_a1 := Fv6
  have F_coder_a1 := Fc6
  have V_vb6 := Vs6
  have E_vb6 := Es6
  rw [hPP]
  refine own_finVW (Q := (QsS Z a1 a2 cs xs h0 n0)) (Z := Z) (EL := own_EL) X6 hx hlk hS0 hk6 Bd.returns (hb hby d3_9) ?_ (by rw [hh]; exact CR6.trans (CHv.at X6 hZ0 hEL CR6.1)) (by decide) (by decide)
  show QsS Z a1 a2 cs xs h0 n0 _ T6.heap _
  exact ⟨rfl, N6, K6k, vb6, _, _, Or.inr (Or.inr (Or.inr (Or.inl ⟨c0, c1, hxe, hr0, hr1, hc0, hc1, rfl, rfl⟩))), F_value_a1, F_coder_a1, V_vb6, E_vb6⟩
theorem d12_0 : decode jdk_42_method_152_code 0 = .ok (.getstatic 38, 3) := by decide +kernel
theorem d12_3 : decode jdk_42_method_152_code 3 = .ok (.ifCond .eq 10, 3) := by decide +kernel
theorem d12_6 : decode jdk_42_method_152_code 6 = .ok (.aload_n 0, 1) := by decide +kernel
theorem d12_7 : decode jdk_42_method_152_code 7 = .ok (.getfield 15, 3) := by decide +kernel
theorem d12_10 : decode jdk_42_method_152_code 10 = .ok (.goto 4, 3) := by decide +kernel
theorem d12_14 : decode jdk_42_method_152_code 14 = .ok (.ireturn, 1) := by decide +kernel
theorem pn_12 : plainName "java/lang/String" = true := by first | (simp [plainName, overriddenIn]; done) | decide +kernel
theorem ef_12 (m : MethodId) (a1 : Addr) (cs : Int32) (co : Int32) : entryFrame m #[(.ref a1)] 1 = mkF m 0 #[.val (.ref a1)] [] := by first | (simp [entryFrame, mkF, argsToLocals, Value.category]; done) | rfl
def Q12 (Z : State) (a1 : Addr) (cs : Int32) (co : Int32) (h0 : Heap) (n0 : Nat) (v : Option Value) (h : Heap) (L : List Loc) : Prop := v = some (.int co) ∧ Fr n0 L ∧ h = h0
set_option maxRecDepth 65536 in
set_option maxHeartbeats 40000000 in
theorem rm12 (l : Launch) (Z : State) (a0 : Array Value) (hw : ∀ d ∈ tables_1, d.before a0 Z = true) (ws : List Jvm.Cond) (a1 : Addr) (cs : Int32) (co : Int32) (h0 : Heap) (n0 : Nat) (Z0 : n0 ≤ h0.size) (F_coder_a1 : Fld Z h0 a1 "java/lang/String" "coder" "B" (.int co)) (hco : co = 0 ∨ co = 1) (SBC : Sta Z Z.heap "java/lang/String" "COMPACT_STRINGS" "Z" (.int cs)) (hcs : ¬ (cs = (0 : Int32))) (O_ : Old Z n0 h0) :
    MetFree l (⟨"java/lang/String", "coder", "()B"⟩ : MethodName) (head1 (Jvm.Cond.code (⟨"java/lang/String", "coder", "()B"⟩ : MethodName) jdk_42_method_152_code 1 (some .byte) :: ws) ({ frames := 0, cells := 0, slots := 0, locals := 0 } : Room)) (fun a U => a = #[(.ref a1)] ∧ Z.Warmed39 U.vm ∧ U.heap = h0) (fun _ _ _ _ _ => True) (fun _ U o U' => ∃ v L, o = .returned v ∧ Q12 Z a1 cs co h0 n0 v U'.heap L ∧ FrameEnd U o U' L ({ frames := 0, cells := 0, slots := 0, locals := 0 } : Room).cells ({ frames := 0, cells := 0, slots := 0, locals := 0 } : Room).slots) := by
  have W := @own_wd Z a0 hw
  refine MetFree.of_bodySF (plainFor_of_name pn_12) hisR ?_
  intro p e s m args below meth c s₁ Bd hml0 hP hK
  obtain ⟨rfl, hZ, hh⟩ := hP
  have hx := Bd.exec
  have hby := Bd.bytes
  have hlk : meth.locks = false := BodyLoose.notSynchronized Bd
  have hml : c.maxLocals = 1 := hml0
  have hown : s.vm.findClass "java/lang/String" = some m.cls := findClass_of_methodNamed Bd.named
  have hnm := (name_of_methodNamed Bd.named Bd.method).1
  have X0 : Stand p l e ({ frames := 0, cells := 0, slots := 0, locals := 0 } : Room) s m #[(.ref a1)] below meth c s₁ [] 0 0 := Stand.of_body Bd
  have e0 : s₁.heap = h0 := by rw [← hh, Bd.state]; rfl
  have N0 := Fr.nil n0
  show Gl p.tables e below _ _
  refine Gl.pre (fun t k => castTop (ef_12 m a1 cs co) k) ?_
  refine Gl.gen (fun PP hPP => ?_)
  show Gl p.tables e below PP (s₁.setTop (mkF m 0 #[.val (.ref a1)] []))
  obtain ⟨T1, X1, e1, st1⟩ := getS2 X0 hx hZ hown (host := "") (Or.inl (W 23 rfl)) Via.refl e0 (SBC.ext O_.2) (g := (mkF m 0 #[.val (.ref a1)] [])) rfl (hb hby d12_0)
  refine Gl.pre (fun _ k => st1 _ k) ?_
  refine Y.ifNo X1 hx (hb hby d12_3) rfl ((if0 _ _).trans (feq (show ¬ (cs = (0 : Int32)) from hcs)).1) ?_
  refine Y.aloadN X1 hx (hb hby d12_6) rfl rfl ?_
  obtain ⟨T2, X2, e2, st2⟩ := getF X1 hx hZ hown (host := "") (Or.inl (W 35 rfl)) Via.refl e1 F_coder_a1 (g := (mkF m 7 #[.val (.ref a1)] [(.ref a1)])) rfl rfl (hb hby d12_7)
  refine Gl.pre (fun _ k => st2 _ k) ?_
  refine Y.goto X2 hx (pc0 := 10) (pc' := 14) rfl (hb hby d12_10) (by decide) (by decide) ?_
  rw [hPP]
  refine own_finN (Q := (Q12 Z a1 cs co h0 n0)) X2 hx hlk Bd.returns (t := .byte) (z' := co) (by simp) (by rcases hco with rfl | rfl <;> decide) (hb hby d12_14) ?_ (by decide) (by decide)
  show Q12 Z a1 cs co h0 n0 _ T2.heap _
  rw [e2]
  exact ⟨rfl, N0, rfl⟩
theorem d16_0 : decode jdk_123_method_3_code 0 = .ok (.iload_n 1, 1) := by decide +kernel
theorem d16_1 : decode jdk_123_method_3_code 1 = .ok (.iload_n 2, 1) := by decide +kernel
theorem d16_2 : decode jdk_123_method_3_code 2 = .ok (.iadd, 1) := by decide +kernel
theorem d16_3 : decode jdk_123_method_3_code 3 = .ok (.istore_n 3, 1) := by decide +kernel
theorem d16_4 : decode jdk_123_method_3_code 4 = .ok (.iload_n 1, 1) := by decide +kernel
theorem d16_5 : decode jdk_123_method_3_code 5 = .ok (.istore 4, 2) := by decide +kernel
theorem d16_7 : decode jdk_123_method_3_code 7 = .ok (.iload 4, 2) := by decide +kernel
theorem d16_9 : decode jdk_123_method_3_code 9 = .ok (.iload_n 3, 1) := by decide +kernel
theorem d16_10 : decode jdk_123_method_3_code 10 = .ok (.if_icmp .ge 21, 3) := by decide +kernel
theorem d16_13 : decode jdk_123_method_3_code 13 = .ok (.aload_n 0, 1) := by decide +kernel
theorem d16_14 : decode jdk_123_method_3_code 14 = .ok (.iload 4, 2) := by decide +kernel
theorem d16_16 : decode jdk_123_method_3_code 16 = .ok (.baload, 1) := by decide +kernel
theorem d16_17 : decode jdk_123_method_3_code 17 = .ok (.ifCond .ge 8, 3) := by decide +kernel
theorem d16_20 : decode jdk_123_method_3_code 20 = .ok (.iload 4, 2) := by decide +kernel
theorem d16_22 : decode jdk_123_method_3_code 22 = .ok (.iload_n 1, 1) := by decide +kernel
theorem d16_23 : decode jdk_123_method_3_code 23 = .ok (.isub, 1) := by decide +kernel
theorem d16_24 : decode jdk_123_method_3_code 24 = .ok (.ireturn, 1) := by decide +kernel
theorem d16_25 : decode jdk_123_method_3_code 25 = .ok (.iinc 4 1, 3) := by decide +kernel
theorem d16_28 : decode jdk_123_method_3_code 28 = .ok (.goto (-21), 3) := by decide +kernel
theorem d16_31 : decode jdk_123_method_3_code 31 = .ok (.iload_n 2, 1) := by decide +kernel
theorem d16_32 : decode jdk_123_method_3_code 32 = .ok (.ireturn, 1) := by decide +kernel
theorem pn_16 : plainName "java/lang/StringCoding" = true := by first | (simp [plainName, overriddenIn]; done) | decide +kernel
theorem ef_cp0_0 (m : MethodId) (a1 : Addr) : entryFrame m #[(.ref a1), (.int (0 : Int32)), (.int (0 : Int32))] 5 = mkF m 0 #[.val (.ref a1), .val (.int (0 : Int32)), .val (.int (0 : Int32)), .unset, .unset] [] := by first | (simp [entryFrame, mkF, argsToLocals, Value.category]; done) | rfl
def Qcp0_0 (Z : State) (a1 : Addr) (h0 : Heap) (n0 : Nat) (v : Option Value) (h : Heap) (L : List Loc) : Prop := v = some (.int (0 : Int32)) ∧ Fr n0 L ∧ h = h0
set_option maxRecDepth 65536 in
set_option maxHeartbeats 40000000 in
theorem rmcp0_0 (l : Launch) (Z : State) (a0 : Array Value) (hw : ∀ d ∈ tables_1, d.before a0 Z = true) (ws : List Jvm.Cond) (a1 : Addr) (h0 : Heap) (n0 : Nat) (Z0 : n0 ≤ h0.size) (V_a1 : Bal Z h0 a1 .byte []) :
    MetFree l (⟨"java/lang/StringCoding", "countPositives", "([BII)I"⟩ : MethodName) (head1 (Jvm.Cond.code (⟨"java/lang/StringCoding", "countPositives", "([BII)I"⟩ : MethodName) jdk_123_method_3_code 5 (some .int) :: ws) ({ frames := 0, cells := 0, slots := 0, locals := 0 } : Room)) (fun a U => a = #[(.ref a1), (.int (0 : Int32)), (.int (0 : Int32))] ∧ Z.Warmed39 U.vm ∧ U.heap = h0) (fun _ _ _ _ _ => True) (fun _ U o U' => ∃ v L, o = .returned v ∧ Qcp0_0 Z a1 h0 n0 v U'.heap L ∧ FrameEnd U o U' L ({ frames := 0, cells := 0, slots := 0, locals := 0 } : Room).cells ({ frames := 0, cells := 0, slots := 0, locals := 0 } : Room).slots) := by
  have W := @own_wd Z a0 hw
  refine MetFree.of_bodySF (plainFor_of_name pn_16) hisR ?_
  intro p e s m args below meth c s₁ Bd hml0 hP hK
  obtain ⟨rfl, hZ, hh⟩ := hP
  have hx := Bd.exec
  have hby := Bd.bytes
  have hlk : meth.locks = false := BodyLoose.notSynchronized Bd
  have hml : c.maxLocals = 5 := hml0
  have hown : s.vm.findClass "java/lang/StringCoding" = some m.cls := findClass_of_methodNamed Bd.named
  have hnm := (name_of_methodNamed Bd.named Bd.method).1
  have X0 : Stand p l e ({ frames := 0, cells := 0, slots := 0, locals := 0 } : Room) s m #[(.ref a1), (.int (0 : Int32)), (.int (0 : Int32))] below meth c s₁ [] 0 0 := Stand.of_body Bd
  have e0 : s₁.heap = h0 := by rw [← hh, Bd.state]; rfl
  have N0 := Fr.nil n0
  show Gl p.tables e below _ _
  refine Gl.pre (fun t k => castTop (ef_cp0_0 m a1) k) ?_
  refine Gl.gen (fun PP hPP => ?_)
  show Gl p.tables e below PP (s₁.setTop (mkF m 0 #[.val (.ref a1), .val (.int (0 : Int32)), .val (.int (0 : Int32)), .unset, .unset] []))
  refine Y.iloadN X0 hx (hb hby d16_0) rfl ?_
  refine Y.iloadN X0 hx (hb hby d16_1) rfl ?_
  refine Y.iadd X0 hx (hb hby d16_2) rfl ?_
  show Gl p.tables e below PP (s₁.setTop (mkF m 3 #[.val (.ref a1), .val (.int (0 : Int32)), .val (.int (0 : Int32)), .unset, .unset] [(.int ((0 : Int32) + (0 : Int32)))]))
  rw [show ((0 : Int32) + (0 : Int32)) = (0 : Int32) by decide]
  show Gl p.tables e below PP (s₁.setTop (mkF m 3 #[.val (.ref a1), .val (.int (0 : Int32)), .val (.int (0 : Int32)), .unset, .unset] [(.int (0 : Int32))]))
  refine Y.istoreN X0 hx (hb hby d16_3) rfl (l' := #[.val (.ref a1), .val (.int (0 : Int32)), .val (.int (0 : Int32)), .val (.int (0 : Int32)), .unset]) rfl ?_
  refine Y.iloadN X0 hx (hb hby d16_4) rfl ?_
  refine Y.istore X0 hx (hb hby d16_5) rfl (l' := #[.val (.ref a1), .val (.int (0 : Int32)), .val (.int (0 : Int32)), .val (.int (0 : Int32)), .val (.int (0 : Int32))]) rfl ?_
  refine Y.iload X0 hx (hb hby d16_7) rfl ?_
  refine Y.iloadN X0 hx (hb hby d16_9) rfl ?_
  refine Y.icmpYes X0 hx (pc0 := 10) (pc' := 31) rfl (hb hby d16_10) rfl (flt (show ¬ ((0 : Int32) < (0 : Int32)) from (by decide))).2.1 (by decide) (by decide) ?_
  refine Y.iloadN X0 hx (hb hby d16_31) rfl ?_
  rw [hPP]
  refine own_finI (Q := (Qcp0_0 Z a1 h0 n0)) X0 hx hlk Bd.returns (hb hby d16_32) ?_ (by decide) (by decide)
  show Qcp0_0 Z a1 h0 n0 _ s₁.heap _
  rw [e0]
  exact ⟨rfl, N0, rfl⟩
theorem d15_0 : decode jdk_123_method_2_code 0 = .ok (.aload_n 0, 1) := by decide +kernel
theorem d15_1 : decode jdk_123_method_2_code 1 = .ok (.iload_n 1, 1) := by decide +kernel
theorem d15_2 : decode jdk_123_method_2_code 2 = .ok (.iload_n 2, 1) := by decide +kernel
theorem d15_3 : decode jdk_123_method_2_code 3 = .ok (.invokestatic 7, 3) := by decide +kernel
theorem d15_6 : decode jdk_123_method_2_code 6 = .ok (.iload_n 2, 1) := by decide +kernel
theorem d15_7 : decode jdk_123_method_2_code 7 = .ok (.if_icmp .eq 7, 3) := by decide +kernel
theorem d15_10 : decode jdk_123_method_2_code 10 = .ok (.iconst 1, 1) := by decide +kernel
theorem d15_11 : decode jdk_123_method_2_code 11 = .ok (.goto 4, 3) := by decide +kernel
theorem d15_14 : decode jdk_123_method_2_code 14 = .ok (.iconst 0, 1) := by decide +kernel
theorem d15_15 : decode jdk_123_method_2_code 15 = .ok (.ireturn, 1) := by decide +kernel
theorem pn_15 : plainName "java/lang/StringCoding" = true := by first | (simp [plainName, overriddenIn]; done) | decide +kernel
theorem ef_hn0_0 (m : MethodId) (a1 : Addr) : entryFrame m #[(.ref a1), (.int (0 : Int32)), (.int (0 : Int32))] 3 = mkF m 0 #[.val (.ref a1), .val (.int (0 : Int32)), .val (.int (0 : Int32))] [] := by first | (simp [entryFrame, mkF, argsToLocals, Value.category]; done) | rfl
def Qhn0_0 (Z : State) (a1 : Addr) (h0 : Heap) (n0 : Nat) (v : Option Value) (h : Heap) (L : List Loc) : Prop := v = some (.int (0 : Int32)) ∧ Fr n0 L ∧ h = h0
set_option maxRecDepth 65536 in
set_option maxHeartbeats 40000000 in
theorem rmhn0_0 (l : Launch) (Z : State) (a0 : Array Value) (hw : ∀ d ∈ tables_1, d.before a0 Z = true) (ws : List Jvm.Cond) (a1 : Addr) (h0 : Heap) (n0 : Nat) (Z0 : n0 ≤ h0.size) (V_a1 : Bal Z h0 a1 .byte []) :
    MetFree l (⟨"java/lang/StringCoding", "hasNegatives", "([BII)Z"⟩ : MethodName) (head1 (Jvm.Cond.code (⟨"java/lang/StringCoding", "hasNegatives", "([BII)Z"⟩ : MethodName) jdk_123_method_2_code 3 (some .boolean) :: ws) ({ frames := 1, cells := 0, slots := 0, locals := 16 } : Room)) (fun a U => a = #[(.ref a1), (.int (0 : Int32)), (.int (0 : Int32))] ∧ Z.Warmed39 U.vm ∧ U.heap = h0) (fun _ _ _ _ _ => True) (fun _ U o U' => ∃ v L, o = .returned v ∧ Qhn0_0 Z a1 h0 n0 v U'.heap L ∧ FrameEnd U o U' L ({ frames := 1, cells := 0, slots := 0, locals := 16 } : Room).cells ({ frames := 1, cells := 0, slots := 0, locals := 16 } : Room).slots) := by
  have W := @own_wd Z a0 hw
  refine MetFree.of_bodySF (plainFor_of_name pn_15) hisR ?_
  intro p e s m args below meth c s₁ Bd hml0 hP hK
  obtain ⟨rfl, hZ, hh⟩ := hP
  have hx := Bd.exec
  have hby := Bd.bytes
  have hlk : meth.locks = false := BodyLoose.notSynchronized Bd
  have hml : c.maxLocals = 3 := hml0
  have hown : s.vm.findClass "java/lang/StringCoding" = some m.cls := findClass_of_methodNamed Bd.named
  have hnm := (name_of_methodNamed Bd.named Bd.method).1
  have X0 : Stand p l e ({ frames := 1, cells := 0, slots := 0, locals := 16 } : Room) s m #[(.ref a1), (.int (0 : Int32)), (.int (0 : Int32))] below meth c s₁ [] 0 0 := Stand.of_body Bd
  have e0 : s₁.heap = h0 := by rw [← hh, Bd.state]; rfl
  have N0 := Fr.nil n0
  show Gl p.tables e below _ _
  refine Gl.pre (fun t k => castTop (ef_hn0_0 m a1) k) ?_
  refine Gl.gen (fun PP hPP => ?_)
  show Gl p.tables e below PP (s₁.setTop (mkF m 0 #[.val (.ref a1), .val (.int (0 : Int32)), .val (.int (0 : Int32))] []))
  refine Y.aloadN X0 hx (hb hby d15_0) rfl rfl ?_
  refine Y.iloadN X0 hx (hb hby d15_1) rfl ?_
  refine Y.iloadN X0 hx (hb hby d15_2) rfl ?_
  obtain ⟨_, _, ⟨T1, L1, k1, n1⟩, -, X1, ⟨Lc1, hQ1, l1, y1, z1⟩, st1⟩ := Jvm.LawKit.callS X0 hx (y := (⟨"java/lang/StringCoding", "countPositives", "([BII)I"⟩ : MethodName)) hown (mvT hZ (W 73 rfl)) (mvT hZ (W 74 rfl)) (mvT hZ (W 71 rfl)) (mvT hZ (W 75 rfl)) (by decide) (backOf (W := 0) (rmcp0_0 l Z a0 hw [] a1 h0 n0 Z0 V_a1) hZ (W 75 rfl) (W 71 rfl) (by decide) (by decide)) (g := (mkF m 3 #[.val (.ref a1), .val (.int (0 : Int32)), .val (.int (0 : Int32))] [(.int (0 : Int32)), (.int (0 : Int32)), (.ref a1)])) rfl (by rw [hml]; rfl) (argsL := [(.ref a1), (.int (0 : Int32)), (.int (0 : Int32))]) (rest := []) (lenOf pd_8 rfl) rfl (by show 2 * 0 + _ ≤ _; exact Nat.le_of_eq rfl) (hb hby d15_3) (fun _ _ => ⟨rfl, e0, (by decide : 0 + 0 ≤ _), (by decide : 0 + 0 ≤ _)⟩)
  dsimp only [Pt.U, Pt.locs, Pt.cells, Pt.slots] at X1 l1 y1 z1 st1 hQ1
  subst l1 y1 z1
  obtain ⟨rfl, N1q, e1⟩ := hQ1
  have N1 := Fr.app N0 N1q
  refine Gl.pre (fun _ k => st1 _ k) ?_
  refine Y.iloadN X1 hx (hb hby d15_6) rfl ?_
  refine Y.icmpYes X1 hx (pc0 := 7) (pc' := 14) rfl (hb hby d15_7) rfl (teq (show (0 : Int32) = (0 : Int32) from (by decide))).1 (by decide) (by decide) ?_
  refine Y.iconst X1 hx (hb hby d15_14) ?_
  rw [hPP]
  refine own_finN (Q := (Qhn0_0 Z a1 h0 n0)) X1 hx hlk Bd.returns (t := .boolean) (z' := (0 : Int32)) (by simp) (by decide) (hb hby d15_15) ?_ (by decide) (by decide)
  show Qhn0_0 Z a1 h0 n0 _ T1.heap _
  rw [e1]
  exact ⟨rfl, N1, rfl⟩
theorem ef_cp1_0 (m : MethodId) (a1 : Addr) (y0 : Int32) : entryFrame m #[(.ref a1), (.int (0 : Int32)), (.int (1 : Int32))] 5 = mkF m 0 #[.val (.ref a1), .val (.int (0 : Int32)), .val (.int (1 : Int32)), .unset, .unset] [] := by first | (simp [entryFrame, mkF, argsToLocals, Value.category]; done) | rfl
def Qcp1_0 (Z : State) (a1 : Addr) (y0 : Int32) (h0 : Heap) (n0 : Nat) (v : Option Value) (h : Heap) (L : List Loc) : Prop := v = some (.int (0 : Int32)) ∧ Fr n0 L ∧ h = h0
set_option maxRecDepth 65536 in
set_option maxHeartbeats 40000000 in
theorem rmcp1_0 (l : Launch) (Z : State) (a0 : Array Value) (hw : ∀ d ∈ tables_1, d.before a0 Z = true) (ws : List Jvm.Cond) (a1 : Addr) (y0 : Int32) (h0 : Heap) (n0 : Nat) (Z0 : n0 ≤ h0.size) (V_a1 : Bal Z h0 a1 .byte [y0]) (hs0 : y0 < (0 : Int32)) :
    MetFree l (⟨"java/lang/StringCoding", "countPositives", "([BII)I"⟩ : MethodName) (head1 (Jvm.Cond.code (⟨"java/lang/StringCoding", "countPositives", "([BII)I"⟩ : MethodName) jdk_123_method_3_code 5 (some .int) :: ws) ({ frames := 0, cells := 0, slots := 0, locals := 0 } : Room)) (fun a U => a = #[(.ref a1), (.int (0 : Int32)), (.int (1 : Int32))] ∧ Z.Warmed39 U.vm ∧ U.heap = h0) (fun _ _ _ _ _ => True) (fun _ U o U' => ∃ v L, o = .returned v ∧ Qcp1_0 Z a1 y0 h0 n0 v U'.heap L ∧ FrameEnd U o U' L ({ frames := 0, cells := 0, slots := 0, locals := 0 } : Room).cells ({ frames := 0, cells := 0, slots := 0, locals := 0 } : Room).slots) := by
  have W := @own_wd Z a0 hw
  refine MetFree.of_bodySF (plainFor_of_name pn_16) hisR ?_
  intro p e s m args below meth c s₁ Bd hml0 hP hK
  obtain ⟨rfl, hZ, hh⟩ := hP
  have hx := Bd.exec
  have hby := Bd.bytes
  have hlk : meth.locks = false := BodyLoose.notSynchronized Bd
  have hml : c.maxLocals = 5 := hml0
  have hown : s.vm.findClass "java/lang/StringCoding" = some m.cls := findClass_of_methodNamed Bd.named
  have hnm := (name_of_methodNamed Bd.named Bd.method).1
  have X0 : Stand p l e ({ frames := 0, cells := 0, slots := 0, locals := 0 } : Room) s m #[(.ref a1), (.int (0 : Int32)), (.int (1 : Int32))] below meth c s₁ [] 0 0 := Stand.of_body Bd
  have e0 : s₁.heap = h0 := by rw [← hh, Bd.state]; rfl
  have N0 := Fr.nil n0
  show Gl p.tables e below _ _
  refine Gl.pre (fun t k => castTop (ef_cp1_0 m a1 y0) k) ?_
  refine Gl.gen (fun PP hPP => ?_)
  show Gl p.tables e below PP (s₁.setTop (mkF m 0 #[.val (.ref a1), .val (.int (0 : Int32)), .val (.int (1 : Int32)), .unset, .unset] []))
  refine Y.iloadN X0 hx (hb hby d16_0) rfl ?_
  refine Y.iloadN X0 hx (hb hby d16_1) rfl ?_
  refine Y.iadd X0 hx (hb hby d16_2) rfl ?_
  show Gl p.tables e below PP (s₁.setTop (mkF m 3 #[.val (.ref a1), .val (.int (0 : Int32)), .val (.int (1 : Int32)), .unset, .unset] [(.int ((0 : Int32) + (1 : Int32)))]))
  rw [show ((0 : Int32) + (1 : Int32)) = (1 : Int32) by decide]
  show Gl p.tables e below PP (s₁.setTop (mkF m 3 #[.val (.ref a1), .val (.int (0 : Int32)), .val (.int (1 : Int32)), .unset, .unset] [(.int (1 : Int32))]))
  refine Y.istoreN X0 hx (hb hby d16_3) rfl (l' := #[.val (.ref a1), .val (.int (0 : Int32)), .val (.int (1 : Int32)), .val (.int (1 : Int32)), .unset]) rfl ?_
  refine Y.iloadN X0 hx (hb hby d16_4) rfl ?_
  refine Y.istore X0 hx (hb hby d16_5) rfl (l' := #[.val (.ref a1), .val (.int (0 : Int32)), .val (.int (1 : Int32)), .val (.int (1 : Int32)), .val (.int (0 : Int32))]) rfl ?_
  refine Y.iload X0 hx (hb hby d16_7) rfl ?_
  refine Y.iloadN X0 hx (hb hby d16_9) rfl ?_
  refine Y.icmpNo X0 hx (hb hby d16_10) rfl (tlt (show (0 : Int32) < (1 : Int32) from (by decide))).2.1 ?_
  refine Y.aloadN X0 hx (hb hby d16_13) rfl rfl ?_
  refine Y.iload X0 hx (hb hby d16_14) rfl ?_
  refine Gl.pre (fun _ k => own_ldB X0 hx hZ e0 V_a1 (j := (0 : Int32)) (i := 0) (by decide) (by decide) (Nat.lt_of_lt_of_eq (by decide : 0 < 1) rfl) (v := y0) rfl (g := (mkF m 16 #[.val (.ref a1), .val (.int (0 : Int32)), .val (.int (1 : Int32)), .val (.int (1 : Int32)), .val (.int (0 : Int32))] [(.int (0 : Int32)), (.ref a1)])) rfl rfl (hb hby d16_16) _ k) ?_
  refine Y.ifNo X0 hx (hb hby d16_17) rfl ((if0 _ _).trans (tlt (show y0 < (0 : Int32) from hs0)).2.1) ?_
  refine Y.iload X0 hx (hb hby d16_20) rfl ?_
  refine Y.iloadN X0 hx (hb hby d16_22) rfl ?_
  refine Y.isub X0 hx (hb hby d16_23) rfl ?_
  show Gl p.tables e below PP (s₁.setTop (mkF m 24 #[.val (.ref a1), .val (.int (0 : Int32)), .val (.int (1 : Int32)), .val (.int (1 : Int32)), .val (.int (0 : Int32))] [(.int ((0 : Int32) - (0 : Int32)))]))
  rw [show ((0 : Int32) - (0 : Int32)) = (0 : Int32) by decide]
  show Gl p.tables e below PP (s₁.setTop (mkF m 24 #[.val (.ref a1), .val (.int (0 : Int32)), .val (.int (1 : Int32)), .val (.int (1 : Int32)), .val (.int (0 : Int32))] [(.int (0 : Int32))]))
  rw [hPP]
  refine own_finI (Q := (Qcp1_0 Z a1 y0 h0 n0)) X0 hx hlk Bd.returns (hb hby d16_24) ?_ (by decide) (by decide)
  show Qcp1_0 Z a1 y0 h0 n0 _ s₁.heap _
  rw [e0]
  exact ⟨rfl, N0, rfl⟩
theorem ef_hn1_0 (m : MethodId) (a1 : Addr) (y0 : Int32) : entryFrame m #[(.ref a1), (.int (0 : Int32)), (.int (1 : Int32))] 3 = mkF m 0 #[.val (.ref a1), .val (.int (0 : Int32)), .val (.int (1 : Int32))] [] := by first | (simp [entryFrame, mkF, argsToLocals, Value.category]; done) | rfl
def Qhn1_0 (Z : State) (a1 : Addr) (y0 : Int32) (h0 : Heap) (n0 : Nat) (v : Option Value) (h : Heap) (L : List Loc) : Prop := v = some (.int (1 : Int32)) ∧ Fr n0 L ∧ h = h0
set_option maxRecDepth 65536 in
set_option maxHeartbeats 40000000 in
theorem rmhn1_0 (l : Launch) (Z : State) (a0 : Array Value) (hw : ∀ d ∈ tables_1, d.before a0 Z = true) (ws : List Jvm.Cond) (a1 : Addr) (y0 : Int32) (h0 : Heap) (n0 : Nat) (Z0 : n0 ≤ h0.size) (V_a1 : Bal Z h0 a1 .byte [y0]) (hs0 : y0 < (0 : Int32)) :
    MetFree l (⟨"java/lang/StringCoding", "hasNegatives", "([BII)Z"⟩ : MethodName) (head1 (Jvm.Cond.code (⟨"java/lang/StringCoding", "hasNegatives", "([BII)Z"⟩ : MethodName) jdk_123_method_2_code 3 (some .boolean) :: ws) ({ frames := 1, cells := 0, slots := 0, locals := 16 } : Room)) (fun a U => a = #[(.ref a1), (.int (0 : Int32)), (.int (1 : Int32))] ∧ Z.Warmed39 U.vm ∧ U.heap = h0) (fun _ _ _ _ _ => True) (fun _ U o U' => ∃ v L, o = .returned v ∧ Qhn1_0 Z a1 y0 h0 n0 v U'.heap L ∧ FrameEnd U o U' L ({ frames := 1, cells := 0, slots := 0, locals := 16 } : Room).cells ({ frames := 1, cells := 0, slots := 0, locals := 16 } : Room).slots) := by
  have W := @own_wd Z a0 hw
  refine MetFree.of_bodySF (plainFor_of_name pn_15) hisR ?_
  intro p e s m args below meth c s₁ Bd hml0 hP hK
  obtain ⟨rfl, hZ, hh⟩ := hP
  have hx := Bd.exec
  have hby := Bd.bytes
  have hlk : meth.locks = false := BodyLoose.notSynchronized Bd
  have hml : c.maxLocals = 3 := hml0
  have hown : s.vm.findClass "java/lang/StringCoding" = some m.cls := findClass_of_methodNamed Bd.named
  have hnm := (name_of_methodNamed Bd.named Bd.method).1
  have X0 : Stand p l e ({ frames := 1, cells := 0, slots := 0, locals := 16 } : Room) s m #[(.ref a1), (.int (0 : Int32)), (.int (1 : Int32))] below meth c s₁ [] 0 0 := Stand.of_body Bd
  have e0 : s₁.heap = h0 := by rw [← hh, Bd.state]; rfl
  have N0 := Fr.nil n0
  show Gl p.tables e below _ _
  refine Gl.pre (fun t k => castTop (ef_hn1_0 m a1 y0) k) ?_
  refine Gl.gen (fun PP hPP => ?_)
  show Gl p.tables e below PP (s₁.setTop (mkF m 0 #[.val (.ref a1), .val (.int (0 : Int32)), .val (.int (1 : Int32))] []))
  refine Y.aloadN X0 hx (hb hby d15_0) rfl rfl ?_
  refine Y.iloadN X0 hx (hb hby d15_1) rfl ?_
  refine Y.iloadN X0 hx (hb hby d15_2) rfl ?_
  obtain ⟨_, _, ⟨T1, L1, k1, n1⟩, -, X1, ⟨Lc1, hQ1, l1, y1, z1⟩, st1⟩ := Jvm.LawKit.callS X0 hx (y := (⟨"java/lang/StringCoding", "countPositives", "([BII)I"⟩ : MethodName)) hown (mvT hZ (W 73 rfl)) (mvT hZ (W 74 rfl)) (mvT hZ (W 71 rfl)) (mvT hZ (W 75 rfl)) (by decide) (backOf (W := 0) (rmcp1_0 l Z a0 hw [] a1 y0 h0 n0 Z0 V_a1 hs0) hZ (W 75 rfl) (W 71 rfl) (by decide) (by decide)) (g := (mkF m 3 #[.val (.ref a1), .val (.int (0 : Int32)), .val (.int (1 : Int32))] [(.int (1 : Int32)), (.int (0 : Int32)), (.ref a1)])) rfl (by rw [hml]; rfl) (argsL := [(.ref a1), (.int (0 : Int32)), (.int (1 : Int32))]) (rest := []) (lenOf pd_8 rfl) rfl (by show 2 * 0 + _ ≤ _; exact Nat.le_of_eq rfl) (hb hby d15_3) (fun _ _ => ⟨rfl, e0, (by decide : 0 + 0 ≤ _), (by decide : 0 + 0 ≤ _)⟩)
  dsimp only [Pt.U, Pt.locs, Pt.cells, Pt.slots] at X1 l1 y1 z1 st1 hQ1
  subst l1 y1 z1
  obtain ⟨rfl, N1q, e1⟩ := hQ1
  have N1 := Fr.app N0 N1q
  refine Gl.pre (fun _ k => st1 _ k) ?_
  refine Y.iloadN X1 hx (hb hby d15_6) rfl ?_
  refine Y.icmpNo X1 hx (hb hby d15_7) rfl (feq (show ¬ ((0 : Int32) = (1 : Int32)) from (by decide))).1 ?_
  refine Y.iconst X1 hx (hb hby d15_10) ?_
  refine Y.goto X1 hx (pc0 := 11) (pc' := 15) rfl (hb hby d15_11) (by decide) (by decide) ?_
  rw [hPP]
  refine own_finN (Q := (Qhn1_0 Z a1 y0 h0 n0)) X1 hx hlk Bd.returns (t := .boolean) (z' := (1 : Int32)) (by simp) (by decide) (hb hby d15_15) ?_ (by decide) (by decide)
  show Qhn1_0 Z a1 y0 h0 n0 _ T1.heap _
  rw [e1]
  exact ⟨rfl, N1, rfl⟩
theorem ef_cp1_1 (m : MethodId) (a1 : Addr) (y0 : Int32) : entryFrame m #[(.ref a1), (.int (0 : Int32)), (.int (1 : Int32))] 5 = mkF m 0 #[.val (.ref a1), .val (.int (0 : Int32)), .val (.int (1 : Int32)), .unset, .unset] [] := by first | (simp [entryFrame, mkF, argsToLocals, Value.category]; done) | rfl
def Qcp1_1 (Z : State) (a1 : Addr) (y0 : Int32) (h0 : Heap) (n0 : Nat) (v : Option Value) (h : Heap) (L : List Loc) : Prop := v = some (.int (1 : Int32)) ∧ Fr n0 L ∧ h = h0
set_option maxRecDepth 65536 in
set_option maxHeartbeats 40000000 in
theorem rmcp1_1 (l : Launch) (Z : State) (a0 : Array Value) (hw : ∀ d ∈ tables_1, d.before a0 Z = true) (ws : List Jvm.Cond) (a1 : Addr) (y0 : Int32) (h0 : Heap) (n0 : Nat) (Z0 : n0 ≤ h0.size) (V_a1 : Bal Z h0 a1 .byte [y0]) (hs0 : ¬ (y0 < (0 : Int32))) :
    MetFree l (⟨"java/lang/StringCoding", "countPositives", "([BII)I"⟩ : MethodName) (head1 (Jvm.Cond.code (⟨"java/lang/StringCoding", "countPositives", "([BII)I"⟩ : MethodName) jdk_123_method_3_code 5 (some .int) :: ws) ({ frames := 0, cells := 0, slots := 0, locals := 0 } : Room)) (fun a U => a = #[(.ref a1), (.int (0 : Int32)), (.int (1 : Int32))] ∧ Z.Warmed39 U.vm ∧ U.heap = h0) (fun _ _ _ _ _ => True) (fun _ U o U' => ∃ v L, o = .returned v ∧ Qcp1_1 Z a1 y0 h0 n0 v U'.heap L ∧ FrameEnd U o U' L ({ frames := 0, cells := 0, slots := 0, locals := 0 } : Room).cells ({ frames := 0, cells := 0, slots := 0, locals := 0 } : Room).slots) := by
  have W := @own_wd Z a0 hw
  refine MetFree.of_bodySF (plainFor_of_name pn_16) hisR ?_
  intro p e s m args below meth c s₁ Bd hml0 hP hK
  obtain ⟨rfl, hZ, hh⟩ := hP
  have hx := Bd.exec
  have hby := Bd.bytes
  have hlk : meth.locks = false := BodyLoose.notSynchronized Bd
  have hml : c.maxLocals = 5 := hml0
  have hown : s.vm.findClass "java/lang/StringCoding" = some m.cls := findClass_of_methodNamed Bd.named
  have hnm := (name_of_methodNamed Bd.named Bd.method).1
  have X0 : Stand p l e ({ frames := 0, cells := 0, slots := 0, locals := 0 } : Room) s m #[(.ref a1), (.int (0 : Int32)), (.int (1 : Int32))] below meth c s₁ [] 0 0 := Stand.of_body Bd
  have e0 : s₁.heap = h0 := by rw [← hh, Bd.state]; rfl
  have N0 := Fr.nil n0
  show Gl p.tables e below _ _
  refine Gl.pre (fun t k => castTop (ef_cp1_1 m a1 y0) k) ?_
  refine Gl.gen (fun PP hPP => ?_)
  show Gl p.tables e below PP (s₁.setTop (mkF m 0 #[.val (.ref a1), .val (.int (0 : Int32)), .val (.int (1 : Int32)), .unset, .unset] []))
  refine Y.iloadN X0 hx (hb hby d16_0) rfl ?_
  refine Y.iloadN X0 hx (hb hby d16_1) rfl ?_
  refine Y.iadd X0 hx (hb hby d16_2) rfl ?_
  show Gl p.tables e below PP (s₁.setTop (mkF m 3 #[.val (.ref a1), .val (.int (0 : Int32)), .val (.int (1 : Int32)), .unset, .unset] [(.int ((0 : Int32) + (1 : Int32)))]))
  rw [show ((0 : Int32) + (1 : Int32)) = (1 : Int32) by decide]
  show Gl p.tables e below PP (s₁.setTop (mkF m 3 #[.val (.ref a1), .val (.int (0 : Int32)), .val (.int (1 : Int32)), .unset, .unset] [(.int (1 : Int32))]))
  refine Y.istoreN X0 hx (hb hby d16_3) rfl (l' := #[.val (.ref a1), .val (.int (0 : Int32)), .val (.int (1 : Int32)), .val (.int (1 : Int32)), .unset]) rfl ?_
  refine Y.iloadN X0 hx (hb hby d16_4) rfl ?_
  refine Y.istore X0 hx (hb hby d16_5) rfl (l' := #[.val (.ref a1), .val (.int (0 : Int32)), .val (.int (1 : Int32)), .val (.int (1 : Int32)), .val (.int (0 : Int32))]) rfl ?_
  refine Y.iload X0 hx (hb hby d16_7) rfl ?_
  refine Y.iloadN X0 hx (hb hby d16_9) rfl ?_
  refine Y.icmpNo X0 hx (hb hby d16_10) rfl (tlt (show (0 : Int32) < (1 : Int32) from (by decide))).2.1 ?_
  refine Y.aloadN X0 hx (hb hby d16_13) rfl rfl ?_
  refine Y.iload X0 hx (hb hby d16_14) rfl ?_
  refine Gl.pre (fun _ k => own_ldB X0 hx hZ e0 V_a1 (j := (0 : Int32)) (i := 0) (by decide) (by decide) (Nat.lt_of_lt_of_eq (by decide : 0 < 1) rfl) (v := y0) rfl (g := (mkF m 16 #[.val (.ref a1), .val (.int (0 : Int32)), .val (.int (1 : Int32)), .val (.int (1 : Int32)), .val (.int (0 : Int32))] [(.int (0 : Int32)), (.ref a1)])) rfl rfl (hb hby d16_16) _ k) ?_
  refine Y.ifYes X0 hx (pc0 := 17) (pc' := 25) rfl (hb hby d16_17) rfl ((if0 _ _).trans (flt (show ¬ (y0 < (0 : Int32)) from hs0)).2.1) (by decide) (by decide) ?_
  refine Y.iinc X0 hx (hb hby d16_25) rfl (l' := #[.val (.ref a1), .val (.int (0 : Int32)), .val (.int (1 : Int32)), .val (.int (1 : Int32)), .val (.int (1 : Int32))]) rfl ?_
  refine Y.goto X0 hx (pc0 := 28) (pc' := 7) rfl (hb hby d16_28) (by decide) (by decide) ?_
  refine Y.iload X0 hx (hb hby d16_7) rfl ?_
  refine Y.iloadN X0 hx (hb hby d16_9) rfl ?_
  refine Y.icmpYes X0 hx (pc0 := 10) (pc' := 31) rfl (hb hby d16_10) rfl (flt (show ¬ ((1 : Int32) < (1 : Int32)) from (by decide))).2.1 (by decide) (by decide) ?_
  refine Y.iloadN X0 hx (hb hby d16_31) rfl ?_
  rw [hPP]
  refine own_finI (Q := (Qcp1_1 Z a1 y0 h0 n0)) X0 hx hlk Bd.returns (hb hby d16_32) ?_ (by decide) (by decide)
  show Qcp1_1 Z a1 y0 h0 n0 _ s₁.heap _
  rw [e0]
  exact ⟨rfl, N0, rfl⟩
theorem ef_hn1_1 (m : MethodId) (a1 : Addr) (y0 : Int32) : entryFrame m #[(.ref a1), (.int (0 : Int32)), (.int (1 : Int32))] 3 = mkF m 0 #[.val (.ref a1), .val (.int (0 : Int32)), .val (.int (1 : Int32))] [] := by first | (simp [entryFrame, mkF, argsToLocals, Value.category]; done) | rfl
def Qhn1_1 (Z : State) (a1 : Addr) (y0 : Int32) (h0 : Heap) (n0 : Nat) (v : Option Value) (h : Heap) (L : List Loc) : Prop := v = some (.int (0 : Int32)) ∧ Fr n0 L ∧ h = h0
set_option maxRecDepth 65536 in
set_option maxHeartbeats 40000000 in
theorem rmhn1_1 (l : Launch) (Z : State) (a0 : Array Value) (hw : ∀ d ∈ tables_1, d.before a0 Z = true) (ws : List Jvm.Cond) (a1 : Addr) (y0 : Int32) (h0 : Heap) (n0 : Nat) (Z0 : n0 ≤ h0.size) (V_a1 : Bal Z h0 a1 .byte [y0]) (hs0 : ¬ (y0 < (0 : Int32))) :
    MetFree l (⟨"java/lang/StringCoding", "hasNegatives", "([BII)Z"⟩ : MethodName) (head1 (Jvm.Cond.code (⟨"java/lang/StringCoding", "hasNegatives", "([BII)Z"⟩ : MethodName) jdk_123_method_2_code 3 (some .boolean) :: ws) ({ frames := 1, cells := 0, slots := 0, locals := 16 } : Room)) (fun a U => a = #[(.ref a1), (.int (0 : Int32)), (.int (1 : Int32))] ∧ Z.Warmed39 U.vm ∧ U.heap = h0) (fun _ _ _ _ _ => True) (fun _ U o U' => ∃ v L, o = .returned v ∧ Qhn1_1 Z a1 y0 h0 n0 v U'.heap L ∧ FrameEnd U o U' L ({ frames := 1, cells := 0, slots := 0, locals := 16 } : Room).cells ({ frames := 1, cells := 0, slots := 0, locals := 16 } : Room).slots) := by
  have W := @own_wd Z a0 hw
  refine MetFree.of_bodySF (plainFor_of_name pn_15) hisR ?_
  intro p e s m args below meth c s₁ Bd hml0 hP hK
  obtain ⟨rfl, hZ, hh⟩ := hP
  have hx := Bd.exec
  have hby := Bd.bytes
  have hlk : meth.locks = false := BodyLoose.notSynchronized Bd
  have hml : c.maxLocals = 3 := hml0
  have hown : s.vm.findClass "java/lang/StringCoding" = some m.cls := findClass_of_methodNamed Bd.named
  have hnm := (name_of_methodNamed Bd.named Bd.method).1
  have X0 : Stand p l e ({ frames := 1, cells := 0, slots := 0, locals := 16 } : Room) s m #[(.ref a1), (.int (0 : Int32)), (.int (1 : Int32))] below meth c s₁ [] 0 0 := Stand.of_body Bd
  have e0 : s₁.heap = h0 := by rw [← hh, Bd.state]; rfl
  have N0 := Fr.nil n0
  show Gl p.tables e below _ _
  refine Gl.pre (fun t k => castTop (ef_hn1_1 m a1 y0) k) ?_
  refine Gl.gen (fun PP hPP => ?_)
  show Gl p.tables e below PP (s₁.setTop (mkF m 0 #[.val (.ref a1), .val (.int (0 : Int32)), .val (.int (1 : Int32))] []))
  refine Y.aloadN X0 hx (hb hby d15_0) rfl rfl ?_
  refine Y.iloadN X0 hx (hb hby d15_1) rfl ?_
  refine Y.iloadN X0 hx (hb hby d15_2) rfl ?_
  obtain ⟨_, _, ⟨T1, L1, k1, n1⟩, -, X1, ⟨Lc1, hQ1, l1, y1, z1⟩, st1⟩ := Jvm.LawKit.callS X0 hx (y := (⟨"java/lang/StringCoding", "countPositives", "([BII)I"⟩ : MethodName)) hown (mvT hZ (W 73 rfl)) (mvT hZ (W 74 rfl)) (mvT hZ (W 71 rfl)) (mvT hZ (W 75 rfl)) (by decide) (backOf (W := 0) (rmcp1_1 l Z a0 hw [] a1 y0 h0 n0 Z0 V_a1 hs0) hZ (W 75 rfl) (W 71 rfl) (by decide) (by decide)) (g := (mkF m 3 #[.val (.ref a1), .val (.int (0 : Int32)), .val (.int (1 : Int32))] [(.int (1 : Int32)), (.int (0 : Int32)), (.ref a1)])) rfl (by rw [hml]; rfl) (argsL := [(.ref a1), (.int (0 : Int32)), (.int (1 : Int32))]) (rest := []) (lenOf pd_8 rfl) rfl (by show 2 * 0 + _ ≤ _; exact Nat.le_of_eq rfl) (hb hby d15_3) (fun _ _ => ⟨rfl, e0, (by decide : 0 + 0 ≤ _), (by decide : 0 + 0 ≤ _)⟩)
  dsimp only [Pt.U, Pt.locs, Pt.cells, Pt.slots] at X1 l1 y1 z1 st1 hQ1
  subst l1 y1 z1
  obtain ⟨rfl, N1q, e1⟩ := hQ1
  have N1 := Fr.app N0 N1q
  refine Gl.pre (fun _ k => st1 _ k) ?_
  refine Y.iloadN X1 hx (hb hby d15_6) rfl ?_
  refine Y.icmpYes X1 hx (pc0 := 7) (pc' := 14) rfl (hb hby d15_7) rfl (teq (show (1 : Int32) = (1 : Int32) from (by decide))).1 (by decide) (by decide) ?_
  refine Y.iconst X1 hx (hb hby d15_14) ?_
  rw [hPP]
  refine own_finN (Q := (Qhn1_1 Z a1 y0 h0 n0)) X1 hx hlk Bd.returns (t := .boolean) (z' := (0 : Int32)) (by simp) (by decide) (hb hby d15_15) ?_ (by decide) (by decide)
  show Qhn1_1 Z a1 y0 h0 n0 _ T1.heap _
  rw [e1]
  exact ⟨rfl, N1, rfl⟩
theorem ef_cp2_0 (m : MethodId) (a1 : Addr) (y0 : Int32) (y1 : Int32) : entryFrame m #[(.ref a1), (.int (0 : Int32)), (.int (2 : Int32))] 5 = mkF m 0 #[.val (.ref a1), .val (.int (0 : Int32)), .val (.int (2 : Int32)), .unset, .unset] [] := by first | (simp [entryFrame, mkF, argsToLocals, Value.category]; done) | rfl
def Qcp2_0 (Z : State) (a1 : Addr) (y0 : Int32) (y1 : Int32) (h0 : Heap) (n0 : Nat) (v : Option Value) (h : Heap) (L : List Loc) : Prop := v = some (.int (0 : Int32)) ∧ Fr n0 L ∧ h = h0
set_option maxRecDepth 65536 in
set_option maxHeartbeats 40000000 in
theorem rmcp2_0 (l : Launch) (Z : State) (a0 : Array Value) (hw : ∀ d ∈ tables_1, d.before a0 Z = true) (ws : List Jvm.Cond) (a1 : Addr) (y0 : Int32) (y1 : Int32) (h0 : Heap) (n0 : Nat) (Z0 : n0 ≤ h0.size) (V_a1 : Bal Z h0 a1 .byte [y0, y1]) (hs0 : y0 < (0 : Int32)) :
    MetFree l (⟨"java/lang/StringCoding", "countPositives", "([BII)I"⟩ : MethodName) (head1 (Jvm.Cond.code (⟨"java/lang/StringCoding", "countPositives", "([BII)I"⟩ : MethodName) jdk_123_method_3_code 5 (some .int) :: ws) ({ frames := 0, cells := 0, slots := 0, locals := 0 } : Room)) (fun a U => a = #[(.ref a1), (.int (0 : Int32)), (.int (2 : Int32))] ∧ Z.Warmed39 U.vm ∧ U.heap = h0) (fun _ _ _ _ _ => True) (fun _ U o U' => ∃ v L, o = .returned v ∧ Qcp2_0 Z a1 y0 y1 h0 n0 v U'.heap L ∧ FrameEnd U o U' L ({ frames := 0, cells := 0, slots := 0, locals := 0 } : Room).cells ({ frames := 0, cells := 0, slots := 0, locals := 0 } : Room).slots) := by
  have W := @own_wd Z a0 hw
  refine MetFree.of_bodySF (plainFor_of_name pn_16) hisR ?_
  intro p e s m args below meth c s₁ Bd hml0 hP hK
  obtain ⟨rfl, hZ, hh⟩ := hP
  have hx := Bd.exec
  have hby := Bd.bytes
  have hlk : meth.locks = false := BodyLoose.notSynchronized Bd
  have hml : c.maxLocals = 5 := hml0
  have hown : s.vm.findClass "java/lang/StringCoding" = some m.cls := findClass_of_methodNamed Bd.named
  have hnm := (name_of_methodNamed Bd.named Bd.method).1
  have X0 : Stand p l e ({ frames := 0, cells := 0, slots := 0, locals := 0 } : Room) s m #[(.ref a1), (.int (0 : Int32)), (.int (2 : Int32))] below meth c s₁ [] 0 0 := Stand.of_body Bd
  have e0 : s₁.heap = h0 := by rw [← hh, Bd.state]; rfl
  have N0 := Fr.nil n0
  show Gl p.tables e below _ _
  refine Gl.pre (fun t k => castTop (ef_cp2_0 m a1 y0 y1) k) ?_
  refine Gl.gen (fun PP hPP => ?_)
  show Gl p.tables e below PP (s₁.setTop (mkF m 0 #[.val (.ref a1), .val (.int (0 : Int32)), .val (.int (2 : Int32)), .unset, .unset] []))
  refine Y.iloadN X0 hx (hb hby d16_0) rfl ?_
  refine Y.iloadN X0 hx (hb hby d16_1) rfl ?_
  refine Y.iadd X0 hx (hb hby d16_2) rfl ?_
  show Gl p.tables e below PP (s₁.setTop (mkF m 3 #[.val (.ref a1), .val (.int (0 : Int32)), .val (.int (2 : Int32)), .unset, .unset] [(.int ((0 : Int32) + (2 : Int32)))]))
  rw [show ((0 : Int32) + (2 : Int32)) = (2 : Int32) by decide]
  show Gl p.tables e below PP (s₁.setTop (mkF m 3 #[.val (.ref a1), .val (.int (0 : Int32)), .val (.int (2 : Int32)), .unset, .unset] [(.int (2 : Int32))]))
  refine Y.istoreN X0 hx (hb hby d16_3) rfl (l' := #[.val (.ref a1), .val (.int (0 : Int32)), .val (.int (2 : Int32)), .val (.int (2 : Int32)), .unset]) rfl ?_
  refine Y.iloadN X0 hx (hb hby d16_4) rfl ?_
  refine Y.istore X0 hx (hb hby d16_5) rfl (l' := #[.val (.ref a1), .val (.int (0 : Int32)), .val (.int (2 : Int32)), .val (.int (2 : Int32)), .val (.int (0 : Int32))]) rfl ?_
  refine Y.iload X0 hx (hb hby d16_7) rfl ?_
  refine Y.iloadN X0 hx (hb hby d16_9) rfl ?_
  refine Y.icmpNo X0 hx (hb hby d16_10) rfl (tlt (show (0 : Int32) < (2 : Int32) from (by decide))).2.1 ?_
  refine Y.aloadN X0 hx (hb hby d16_13) rfl rfl ?_
  refine Y.iload X0 hx (hb hby d16_14) rfl ?_
  refine Gl.pre (fun _ k => own_ldB X0 hx hZ e0 V_a1 (j := (0 : Int32)) (i := 0) (by decide) (by decide) (Nat.lt_of_lt_of_eq (by decide : 0 < 2) rfl) (v := y0) rfl (g := (mkF m 16 #[.val (.ref a1), .val (.int (0 : Int32)), .val (.int (2 : Int32)), .val (.int (2 : Int32)), .val (.int (0 : Int32))] [(.int (0 : Int32)), (.ref a1)])) rfl rfl (hb hby d16_16) _ k) ?_
  refine Y.ifNo X0 hx (hb hby d16_17) rfl ((if0 _ _).trans (tlt (show y0 < (0 : Int32) from hs0)).2.1) ?_
  refine Y.iload X0 hx (hb hby d16_20) rfl ?_
  refine Y.iloadN X0 hx (hb hby d16_22) rfl ?_
  refine Y.isub X0 hx (hb hby d16_23) rfl ?_
  show Gl p.tables e below PP (s₁.setTop (mkF m 24 #[.val (.ref a1), .val (.int (0 : Int32)), .val (.int (2 : Int32)), .val (.int (2 : Int32)), .val (.int (0 : Int32))] [(.int ((0 : Int32) - (0 : Int32)))]))
  rw [show ((0 : Int32) - (0 : Int32)) = (0 : Int32) by decide]
  show Gl p.tables e below PP (s₁.setTop (mkF m 24 #[.val (.ref a1), .val (.int (0 : Int32)), .val (.int (2 : Int32)), .val (.int (2 : Int32)), .val (.int (0 : Int32))] [(.int (0 : Int32))]))
  rw [hPP]
  refine own_finI (Q := (Qcp2_0 Z a1 y0 y1 h0 n0)) X0 hx hlk Bd.returns (hb hby d16_24) ?_ (by decide) (by decide)
  show Qcp2_0 Z a1 y0 y1 h0 n0 _ s₁.heap _
  rw [e0]
  exact ⟨rfl, N0, rfl⟩
theorem ef_hn2_0 (m : MethodId) (a1 : Addr) (y0 : Int32) (y1 : Int32) : entryFrame m #[(.ref a1), (.int (0 : Int32)), (.int (2 : Int32))] 3 = mkF m 0 #[.val (.ref a1), .val (.int (0 : Int32)), .val (.int (2 : Int32))] [] := by first | (simp [entryFrame, mkF, argsToLocals, Value.category]; done) | rfl
def Qhn2_0 (Z : State) (a1 : Addr) (y0 : Int32) (y1 : Int32) (h0 : Heap) (n0 : Nat) (v : Option Value) (h : Heap) (L : List Loc) : Prop := v = some (.int (1 : Int32)) ∧ Fr n0 L ∧ h = h0
set_option maxRecDepth 65536 in
set_option maxHeartbeats 40000000 in
theorem rmhn2_0 (l : Launch) (Z : State) (a0 : Array Value) (hw : ∀ d ∈ tables_1, d.before a0 Z = true) (ws : List Jvm.Cond) (a1 : Addr) (y0 : Int32) (y1 : Int32) (h0 : Heap) (n0 : Nat) (Z0 : n0 ≤ h0.size) (V_a1 : Bal Z h0 a1 .byte [y0, y1]) (hs0 : y0 < (0 : Int32)) :
    MetFree l (⟨"java/lang/StringCoding", "hasNegatives", "([BII)Z"⟩ : MethodName) (head1 (Jvm.Cond.code (⟨"java/lang/StringCoding", "hasNegatives", "([BII)Z"⟩ : MethodName) jdk_123_method_2_code 3 (some .boolean) :: ws) ({ frames := 1, cells := 0, slots := 0, locals := 16 } : Room)) (fun a U => a = #[(.ref a1), (.int (0 : Int32)), (.int (2 : Int32))] ∧ Z.Warmed39 U.vm ∧ U.heap = h0) (fun _ _ _ _ _ => True) (fun _ U o U' => ∃ v L, o = .returned v ∧ Qhn2_0 Z a1 y0 y1 h0 n0 v U'.heap L ∧ FrameEnd U o U' L ({ frames := 1, cells := 0, slots := 0, locals := 16 } : Room).cells ({ frames := 1, cells := 0, slots := 0, locals := 16 } : Room).slots) := by
  have W := @own_wd Z a0 hw
  refine MetFree.of_bodySF (plainFor_of_name pn_15) hisR ?_
  intro p e s m args below meth c s₁ Bd hml0 hP hK
  obtain ⟨rfl, hZ, hh⟩ := hP
  have hx := Bd.exec
  have hby := Bd.bytes
  have hlk : meth.locks = false := BodyLoose.notSynchronized Bd
  have hml : c.maxLocals = 3 := hml0
  have hown : s.vm.findClass "java/lang/StringCoding" = some m.cls := findClass_of_methodNamed Bd.named
  have hnm := (name_of_methodNamed Bd.named Bd.method).1
  have X0 : Stand p l e ({ frames := 1, cells := 0, slots := 0, locals := 16 } : Room) s m #[(.ref a1), (.int (0 : Int32)), (.int (2 : Int32))] below meth c s₁ [] 0 0 := Stand.of_body Bd
  have e0 : s₁.heap = h0 := by rw [← hh, Bd.state]; rfl
  have N0 := Fr.nil n0
  show Gl p.tables e below _ _
  refine Gl.pre (fun t k => castTop (ef_hn2_0 m a1 y0 y1) k) ?_
  refine Gl.gen (fun PP hPP => ?_)
  show Gl p.tables e below PP (s₁.setTop (mkF m 0 #[.val (.ref a1), .val (.int (0 : Int32)), .val (.int (2 : Int32))] []))
  refine Y.aloadN X0 hx (hb hby d15_0) rfl rfl ?_
  refine Y.iloadN X0 hx (hb hby d15_1) rfl ?_
  refine Y.iloadN X0 hx (hb hby d15_2) rfl ?_
  obtain ⟨_, _, ⟨T1, L1, k1, n1⟩, -, X1, ⟨Lc1, hQ1, l1, y1, z1⟩, st1⟩ := Jvm.LawKit.callS X0 hx (y := (⟨"java/lang/StringCoding", "countPositives", "([BII)I"⟩ : MethodName)) hown (mvT hZ (W 73 rfl)) (mvT hZ (W 74 rfl)) (mvT hZ (W 71 rfl)) (mvT hZ (W 75 rfl)) (by decide) (backOf (W := 0) (rmcp2_0 l Z a0 hw [] a1 y0 y1 h0 n0 Z0 V_a1 hs0) hZ (W 75 rfl) (W 71 rfl) (by decide) (by decide)) (g := (mkF m 3 #[.val (.ref a1), .val (.int (0 : Int32)), .val (.int (2 : Int32))] [(.int (2 : Int32)), (.int (0 : Int32)), (.ref a1)])) rfl (by rw [hml]; rfl) (argsL := [(.ref a1), (.int (0 : Int32)), (.int (2 : Int32))]) (rest := []) (lenOf pd_8 rfl) rfl (by show 2 * 0 + _ ≤ _; exact Nat.le_of_eq rfl) (hb hby d15_3) (fun _ _ => ⟨rfl, e0, (by decide : 0 + 0 ≤ _), (by decide : 0 + 0 ≤ _)⟩)
  dsimp only [Pt.U, Pt.locs, Pt.cells, Pt.slots] at X1 l1 y1 z1 st1 hQ1
  subst l1 y1 z1
  obtain ⟨rfl, N1q, e1⟩ := hQ1
  have N1 := Fr.app N0 N1q
  refine Gl.pre (fun _ k => st1 _ k) ?_
  refine Y.iloadN X1 hx (hb hby d15_6) rfl ?_
  refine Y.icmpNo X1 hx (hb hby d15_7) rfl (feq (show ¬ ((0 : Int32) = (2 : Int32)) from (by decide))).1 ?_
  refine Y.iconst X1 hx (hb hby d15_10) ?_
  refine Y.goto X1 hx (pc0 := 11) (pc' := 15) rfl (hb hby d15_11) (by decide) (by decide) ?_
  rw [hPP]
  refine own_finN (Q := (Qhn2_0 Z a1 y0 y1 h0 n0)) X1 hx hlk Bd.returns (t := .boolean) (z' := (1 : Int32)) (by simp) (by decide) (hb hby d15_15) ?_ (by decide) (by decide)
  show Qhn2_0 Z a1 y0 y1 h0 n0 _ T1.heap _
  rw [e1]
  exact ⟨rfl, N1, rfl⟩
theorem ef_cp2_1 (m : MethodId) (a1 : Addr) (y0 : Int32) (y1 : Int32) : entryFrame m #[(.ref a1), (.int (0 : Int32)), (.int (2 : Int32))] 5 = mkF m 0 #[.val (.ref a1), .val (.int (0 : Int32)), .val (.int (2 : Int32)), .unset, .unset] [] := by first | (simp [entryFrame, mkF, argsToLocals, Value.category]; done) | rfl
def Qcp2_1 (Z : State) (a1 : Addr) (y0 : Int32) (y1 : Int32) (h0 : Heap) (n0 : Nat) (v : Option Value) (h : Heap) (L : List Loc) : Prop := v = some (.int (1 : Int32)) ∧ Fr n0 L ∧ h = h0
set_option maxRecDepth 65536 in
set_option maxHeartbeats 40000000 in
theorem rmcp2_1 (l : Launch) (Z : State) (a0 : Array Value) (hw : ∀ d ∈ tables_1, d.before a0 Z = true) (ws : List Jvm.Cond) (a1 : Addr) (y0 : Int32) (y1 : Int32) (h0 : Heap) (n0 : Nat) (Z0 : n0 ≤ h0.size) (V_a1 : Bal Z h0 a1 .byte [y0, y1]) (hs0 : ¬ (y0 < (0 : Int32))) (hs1 : y1 < (0 : Int32)) :
    MetFree l (⟨"java/lang/StringCoding", "countPositives", "([BII)I"⟩ : MethodName) (head1 (Jvm.Cond.code (⟨"java/lang/StringCoding", "countPositives", "([BII)I"⟩ : MethodName) jdk_123_method_3_code 5 (some .int) :: ws) ({ frames := 0, cells := 0, slots := 0, locals := 0 } : Room)) (fun a U => a = #[(.ref a1), (.int (0 : Int32)), (.int (2 : Int32))] ∧ Z.Warmed39 U.vm ∧ U.heap = h0) (fun _ _ _ _ _ => True) (fun _ U o U' => ∃ v L, o = .returned v ∧ Qcp2_1 Z a1 y0 y1 h0 n0 v U'.heap L ∧ FrameEnd U o U' L ({ frames := 0, cells := 0, slots := 0, locals := 0 } : Room).cells ({ frames := 0, cells := 0, slots := 0, locals := 0 } : Room).slots) := by
  have W := @own_wd Z a0 hw
  refine MetFree.of_bodySF (plainFor_of_name pn_16) hisR ?_
  intro p e s m args below meth c s₁ Bd hml0 hP hK
  obtain ⟨rfl, hZ, hh⟩ := hP
  have hx := Bd.exec
  have hby := Bd.bytes
  have hlk : meth.locks = false := BodyLoose.notSynchronized Bd
  have hml : c.maxLocals = 5 := hml0
  have hown : s.vm.findClass "java/lang/StringCoding" = some m.cls := findClass_of_methodNamed Bd.named
  have hnm := (name_of_methodNamed Bd.named Bd.method).1
  have X0 : Stand p l e ({ frames := 0, cells := 0, slots := 0, locals := 0 } : Room) s m #[(.ref a1), (.int (0 : Int32)), (.int (2 : Int32))] below meth c s₁ [] 0 0 := Stand.of_body Bd
  have e0 : s₁.heap = h0 := by rw [← hh, Bd.state]; rfl
  have N0 := Fr.nil n0
  show Gl p.tables e below _ _
  refine Gl.pre (fun t k => castTop (ef_cp2_1 m a1 y0 y1) k) ?_
  refine Gl.gen (fun PP hPP => ?_)
  show Gl p.tables e below PP (s₁.setTop (mkF m 0 #[.val (.ref a1), .val (.int (0 : Int32)), .val (.int (2 : Int32)), .unset, .unset] []))
  refine Y.iloadN X0 hx (hb hby d16_0) rfl ?_
  refine Y.iloadN X0 hx (hb hby d16_1) rfl ?_
  refine Y.iadd X0 hx (hb hby d16_2) rfl ?_
  show Gl p.tables e below PP (s₁.setTop (mkF m 3 #[.val (.ref a1), .val (.int (0 : Int32)), .val (.int (2 : Int32)), .unset, .unset] [(.int ((0 : Int32) + (2 : Int32)))]))
  rw [show ((0 : Int32) + (2 : Int32)) = (2 : Int32) by decide]
  show Gl p.tables e below PP (s₁.setTop (mkF m 3 #[.val (.ref a1), .val (.int (0 : Int32)), .val (.int (2 : Int32)), .unset, .unset] [(.int (2 : Int32))]))
  refine Y.istoreN X0 hx (hb hby d16_3) rfl (l' := #[.val (.ref a1), .val (.int (0 : Int32)), .val (.int (2 : Int32)), .val (.int (2 : Int32)), .unset]) rfl ?_
  refine Y.iloadN X0 hx (hb hby d16_4) rfl ?_
  refine Y.istore X0 hx (hb hby d16_5) rfl (l' := #[.val (.ref a1), .val (.int (0 : Int32)), .val (.int (2 : Int32)), .val (.int (2 : Int32)), .val (.int (0 : Int32))]) rfl ?_
  refine Y.iload X0 hx (hb hby d16_7) rfl ?_
  refine Y.iloadN X0 hx (hb hby d16_9) rfl ?_
  refine Y.icmpNo X0 hx (hb hby d16_10) rfl (tlt (show (0 : Int32) < (2 : Int32) from (by decide))).2.1 ?_
  refine Y.aloadN X0 hx (hb hby d16_13) rfl rfl ?_
  refine Y.iload X0 hx (hb hby d16_14) rfl ?_
  refine Gl.pre (fun _ k => own_ldB X0 hx hZ e0 V_a1 (j := (0 : Int32)) (i := 0) (by decide) (by decide) (Nat.lt_of_lt_of_eq (by decide : 0 < 2) rfl) (v := y0) rfl (g := (mkF m 16 #[.val (.ref a1), .val (.int (0 : Int32)), .val (.int (2 : Int32)), .val (.int (2 : Int32)), .val (.int (0 : Int32))] [(.int (0 : Int32)), (.ref a1)])) rfl rfl (hb hby d16_16) _ k) ?_
  refine Y.ifYes X0 hx (pc0 := 17) (pc' := 25) rfl (hb hby d16_17) rfl ((if0 _ _).trans (flt (show ¬ (y0 < (0 : Int32)) from hs0)).2.1) (by decide) (by decide) ?_
  refine Y.iinc X0 hx (hb hby d16_25) rfl (l' := #[.val (.ref a1), .val (.int (0 : Int32)), .val (.int (2 : Int32)), .val (.int (2 : Int32)), .val (.int (1 : Int32))]) rfl ?_
  refine Y.goto X0 hx (pc0 := 28) (pc' := 7) rfl (hb hby d16_28) (by decide) (by decide) ?_
  refine Y.iload X0 hx (hb hby d16_7) rfl ?_
  refine Y.iloadN X0 hx (hb hby d16_9) rfl ?_
  refine Y.icmpNo X0 hx (hb hby d16_10) rfl (tlt (show (1 : Int32) < (2 : Int32) from (by decide))).2.1 ?_
  refine Y.aloadN X0 hx (hb hby d16_13) rfl rfl ?_
  refine Y.iload X0 hx (hb hby d16_14) rfl ?_
  refine Gl.pre (fun _ k => own_ldB X0 hx hZ e0 V_a1 (j := (1 : Int32)) (i := 1) (by decide) (by decide) (Nat.lt_of_lt_of_eq (by decide : 1 < 2) rfl) (v := y1) rfl (g := (mkF m 16 #[.val (.ref a1), .val (.int (0 : Int32)), .val (.int (2 : Int32)), .val (.int (2 : Int32)), .val (.int (1 : Int32))] [(.int (1 : Int32)), (.ref a1)])) rfl rfl (hb hby d16_16) _ k) ?_
  refine Y.ifNo X0 hx (hb hby d16_17) rfl ((if0 _ _).trans (tlt (show y1 < (0 : Int32) from hs1)).2.1) ?_
  refine Y.iload X0 hx (hb hby d16_20) rfl ?_
  refine Y.iloadN X0 hx (hb hby d16_22) rfl ?_
  refine Y.isub X0 hx (hb hby d16_23) rfl ?_
  show Gl p.tables e below PP (s₁.setTop (mkF m 24 #[.val (.ref a1), .val (.int (0 : Int32)), .val (.int (2 : Int32)), .val (.int (2 : Int32)), .val (.int (1 : Int32))] [(.int ((1 : Int32) - (0 : Int32)))]))
  rw [show ((1 : Int32) - (0 : Int32)) = (1 : Int32) by decide]
  show Gl p.tables e below PP (s₁.setTop (mkF m 24 #[.val (.ref a1), .val (.int (0 : Int32)), .val (.int (2 : Int32)), .val (.int (2 : Int32)), .val (.int (1 : Int32))] [(.int (1 : Int32))]))
  rw [hPP]
  refine own_finI (Q := (Qcp2_1 Z a1 y0 y1 h0 n0)) X0 hx hlk Bd.returns (hb hby d16_24) ?_ (by decide) (by decide)
  show Qcp2_1 Z a1 y0 y1 h0 n0 _ s₁.heap _
  rw [e0]
  exact ⟨rfl, N0, rfl⟩
theorem ef_hn2_1 (m : MethodId) (a1 : Addr) (y0 : Int32) (y1 : Int32) : entryFrame m #[(.ref a1), (.int (0 : Int32)), (.int (2 : Int32))] 3 = mkF m 0 #[.val (.ref a1), .val (.int (0 : Int32)), .val (.int (2 : Int32))] [] := by first | (simp [entryFrame, mkF, argsToLocals, Value.category]; done) | rfl
def Qhn2_1 (Z : State) (a1 : Addr) (y0 : Int32) (y1 : Int32) (h0 : Heap) (n0 : Nat) (v : Option Value) (h : Heap) (L : List Loc) : Prop := v = some (.int (1 : Int32)) ∧ Fr n0 L ∧ h = h0
set_option maxRecDepth 65536 in
set_option maxHeartbeats 40000000 in
theorem rmhn2_1 (l : Launch) (Z : State) (a0 : Array Value) (hw : ∀ d ∈ tables_1, d.before a0 Z = true) (ws : List Jvm.Cond) (a1 : Addr) (y0 : Int32) (y1 : Int32) (h0 : Heap) (n0 : Nat) (Z0 : n0 ≤ h0.size) (V_a1 : Bal Z h0 a1 .byte [y0, y1]) (hs0 : ¬ (y0 < (0 : Int32))) (hs1 : y1 < (0 : Int32)) :
    MetFree l (⟨"java/lang/StringCoding", "hasNegatives", "([BII)Z"⟩ : MethodName) (head1 (Jvm.Cond.code (⟨"java/lang/StringCoding", "hasNegatives", "([BII)Z"⟩ : MethodName) jdk_123_method_2_code 3 (some .boolean) :: ws) ({ frames := 1, cells := 0, slots := 0, locals := 16 } : Room)) (fun a U => a = #[(.ref a1), (.int (0 : Int32)), (.int (2 : Int32))] ∧ Z.Warmed39 U.vm ∧ U.heap = h0) (fun _ _ _ _ _ => True) (fun _ U o U' => ∃ v L, o = .returned v ∧ Qhn2_1 Z a1 y0 y1 h0 n0 v U'.heap L ∧ FrameEnd U o U' L ({ frames := 1, cells := 0, slots := 0, locals := 16 } : Room).cells ({ frames := 1, cells := 0, slots := 0, locals := 16 } : Room).slots) := by
  have W := @own_wd Z a0 hw
  refine MetFree.of_bodySF (plainFor_of_name pn_15) hisR ?_
  intro p e s m args below meth c s₁ Bd hml0 hP hK
  obtain ⟨rfl, hZ, hh⟩ := hP
  have hx := Bd.exec
  have hby := Bd.bytes
  have hlk : meth.locks = false := BodyLoose.notSynchronized Bd
  have hml : c.maxLocals = 3 := hml0
  have hown : s.vm.findClass "java/lang/StringCoding" = some m.cls := findClass_of_methodNamed Bd.named
  have hnm := (name_of_methodNamed Bd.named Bd.method).1
  have X0 : Stand p l e ({ frames := 1, cells := 0, slots := 0, locals := 16 } : Room) s m #[(.ref a1), (.int (0 : Int32)), (.int (2 : Int32))] below meth c s₁ [] 0 0 := Stand.of_body Bd
  have e0 : s₁.heap = h0 := by rw [← hh, Bd.state]; rfl
  have N0 := Fr.nil n0
  show Gl p.tables e below _ _
  refine Gl.pre (fun t k => castTop (ef_hn2_1 m a1 y0 y1) k) ?_
  refine Gl.gen (fun PP hPP => ?_)
  show Gl p.tables e below PP (s₁.setTop (mkF m 0 #[.val (.ref a1), .val (.int (0 : Int32)), .val (.int (2 : Int32))] []))
  refine Y.aloadN X0 hx (hb hby d15_0) rfl rfl ?_
  refine Y.iloadN X0 hx (hb hby d15_1) rfl ?_
  refine Y.iloadN X0 hx (hb hby d15_2) rfl ?_
  obtain ⟨_, _, ⟨T1, L1, k1, n1⟩, -, X1, ⟨Lc1, hQ1, l1, y1, z1⟩, st1⟩ := Jvm.LawKit.callS X0 hx (y := (⟨"java/lang/StringCoding", "countPositives", "([BII)I"⟩ : MethodName)) hown (mvT hZ (W 73 rfl)) (mvT hZ (W 74 rfl)) (mvT hZ (W 71 rfl)) (mvT hZ (W 75 rfl)) (by decide) (backOf (W := 0) (rmcp2_1 l Z a0 hw [] a1 y0 y1 h0 n0 Z0 V_a1 hs0 hs1) hZ (W 75 rfl) (W 71 rfl) (by decide) (by decide)) (g := (mkF m 3 #[.val (.ref a1), .val (.int (0 : Int32)), .val (.int (2 : Int32))] [(.int (2 : Int32)), (.int (0 : Int32)), (.ref a1)])) rfl (by rw [hml]; rfl) (argsL := [(.ref a1), (.int (0 : Int32)), (.int (2 : Int32))]) (rest := []) (lenOf pd_8 rfl) rfl (by show 2 * 0 + _ ≤ _; exact Nat.le_of_eq rfl) (hb hby d15_3) (fun _ _ => ⟨rfl, e0, (by decide : 0 + 0 ≤ _), (by decide : 0 + 0 ≤ _)⟩)
  dsimp only [Pt.U, Pt.locs, Pt.cells, Pt.slots] at X1 l1 y1 z1 st1 hQ1
  subst l1 y1 z1
  obtain ⟨rfl, N1q, e1⟩ := hQ1
  have N1 := Fr.app N0 N1q
  refine Gl.pre (fun _ k => st1 _ k) ?_
  refine Y.iloadN X1 hx (hb hby d15_6) rfl ?_
  refine Y.icmpNo X1 hx (hb hby d15_7) rfl (feq (show ¬ ((1 : Int32) = (2 : Int32)) from (by decide))).1 ?_
  refine Y.iconst X1 hx (hb hby d15_10) ?_
  refine Y.goto X1 hx (pc0 := 11) (pc' := 15) rfl (hb hby d15_11) (by decide) (by decide) ?_
  rw [hPP]
  refine own_finN (Q := (Qhn2_1 Z a1 y0 y1 h0 n0)) X1 hx hlk Bd.returns (t := .boolean) (z' := (1 : Int32)) (by simp) (by decide) (hb hby d15_15) ?_ (by decide) (by decide)
  show Qhn2_1 Z a1 y0 y1 h0 n0 _ T1.heap _
  rw [e1]
  exact ⟨rfl, N1, rfl⟩
theorem ef_cp2_2 (m : MethodId) (a1 : Addr) (y0 : Int32) (y1 : Int32) : entryFrame m #[(.ref a1), (.int (0 : Int32)), (.int (2 : Int32))] 5 = mkF m 0 #[.val (.ref a1), .val (.int (0 : Int32)), .val (.int (2 : Int32)), .unset, .unset] [] := by first | (simp [entryFrame, mkF, argsToLocals, Value.category]; done) | rfl
def Qcp2_2 (Z : State) (a1 : Addr) (y0 : Int32) (y1 : Int32) (h0 : Heap) (n0 : Nat) (v : Option Value) (h : Heap) (L : List Loc) : Prop := v = some (.int (2 : Int32)) ∧ Fr n0 L ∧ h = h0
set_option maxRecDepth 65536 in
set_option maxHeartbeats 40000000 in
theorem rmcp2_2 (l : Launch) (Z : State) (a0 : Array Value) (hw : ∀ d ∈ tables_1, d.before a0 Z = true) (ws : List Jvm.Cond) (a1 : Addr) (y0 : Int32) (y1 : Int32) (h0 : Heap) (n0 : Nat) (Z0 : n0 ≤ h0.size) (V_a1 : Bal Z h0 a1 .byte [y0, y1]) (hs0 : ¬ (y0 < (0 : Int32))) (hs1 : ¬ (y1 < (0 : Int32))) :
    MetFree l (⟨"java/lang/StringCoding", "countPositives", "([BII)I"⟩ : MethodName) (head1 (Jvm.Cond.code (⟨"java/lang/StringCoding", "countPositives", "([BII)I"⟩ : MethodName) jdk_123_method_3_code 5 (some .int) :: ws) ({ frames := 0, cells := 0, slots := 0, locals := 0 } : Room)) (fun a U => a = #[(.ref a1), (.int (0 : Int32)), (.int (2 : Int32))] ∧ Z.Warmed39 U.vm ∧ U.heap = h0) (fun _ _ _ _ _ => True) (fun _ U o U' => ∃ v L, o = .returned v ∧ Qcp2_2 Z a1 y0 y1 h0 n0 v U'.heap L ∧ FrameEnd U o U' L ({ frames := 0, cells := 0, slots := 0, locals := 0 } : Room).cells ({ frames := 0, cells := 0, slots := 0, locals := 0 } : Room).slots) := by
  have W := @own_wd Z a0 hw
  refine MetFree.of_bodySF (plainFor_of_name pn_16) hisR ?_
  intro p e s m args below meth c s₁ Bd hml0 hP hK
  obtain ⟨rfl, hZ, hh⟩ := hP
  have hx := Bd.exec
  have hby := Bd.bytes
  have hlk : meth.locks = false := BodyLoose.notSynchronized Bd
  have hml : c.maxLocals = 5 := hml0
  have hown : s.vm.findClass "java/lang/StringCoding" = some m.cls := findClass_of_methodNamed Bd.named
  have hnm := (name_of_methodNamed Bd.named Bd.method).1
  have X0 : Stand p l e ({ frames := 0, cells := 0, slots := 0, locals := 0 } : Room) s m #[(.ref a1), (.int (0 : Int32)), (.int (2 : Int32))] below meth c s₁ [] 0 0 := Stand.of_body Bd
  have e0 : s₁.heap = h0 := by rw [← hh, Bd.state]; rfl
  have N0 := Fr.nil n0
  show Gl p.tables e below _ _
  refine Gl.pre (fun t k => castTop (ef_cp2_2 m a1 y0 y1) k) ?_
  refine Gl.gen (fun PP hPP => ?_)
  show Gl p.tables e below PP (s₁.setTop (mkF m 0 #[.val (.ref a1), .val (.int (0 : Int32)), .val (.int (2 : Int32)), .unset, .unset] []))
  refine Y.iloadN X0 hx (hb hby d16_0) rfl ?_
  refine Y.iloadN X0 hx (hb hby d16_1) rfl ?_
  refine Y.iadd X0 hx (hb hby d16_2) rfl ?_
  show Gl p.tables e below PP (s₁.setTop (mkF m 3 #[.val (.ref a1), .val (.int (0 : Int32)), .val (.int (2 : Int32)), .unset, .unset] [(.int ((0 : Int32) + (2 : Int32)))]))
  rw [show ((0 : Int32) + (2 : Int32)) = (2 : Int32) by decide]
  show Gl p.tables e below PP (s₁.setTop (mkF m 3 #[.val (.ref a1), .val (.int (0 : Int32)), .val (.int (2 : Int32)), .unset, .unset] [(.int (2 : Int32))]))
  refine Y.istoreN X0 hx (hb hby d16_3) rfl (l' := #[.val (.ref a1), .val (.int (0 : Int32)), .val (.int (2 : Int32)), .val (.int (2 : Int32)), .unset]) rfl ?_
  refine Y.iloadN X0 hx (hb hby d16_4) rfl ?_
  refine Y.istore X0 hx (hb hby d16_5) rfl (l' := #[.val (.ref a1), .val (.int (0 : Int32)), .val (.int (2 : Int32)), .val (.int (2 : Int32)), .val (.int (0 : Int32))]) rfl ?_
  refine Y.iload X0 hx (hb hby d16_7) rfl ?_
  refine Y.iloadN X0 hx (hb hby d16_9) rfl ?_
  refine Y.icmpNo X0 hx (hb hby d16_10) rfl (tlt (show (0 : Int32) < (2 : Int32) from (by decide))).2.1 ?_
  refine Y.aloadN X0 hx (hb hby d16_13) rfl rfl ?_
  refine Y.iload X0 hx (hb hby d16_14) rfl ?_
  refine Gl.pre (fun _ k => own_ldB X0 hx hZ e0 V_a1 (j := (0 : Int32)) (i := 0) (by decide) (by decide) (Nat.lt_of_lt_of_eq (by decide : 0 < 2) rfl) (v := y0) rfl (g := (mkF m 16 #[.val (.ref a1), .val (.int (0 : Int32)), .val (.int (2 : Int32)), .val (.int (2 : Int32)), .val (.int (0 : Int32))] [(.int (0 : Int32)), (.ref a1)])) rfl rfl (hb hby d16_16) _ k) ?_
  refine Y.ifYes X0 hx (pc0 := 17) (pc' := 25) rfl (hb hby d16_17) rfl ((if0 _ _).trans (flt (show ¬ (y0 < (0 : Int32)) from hs0)).2.1) (by decide) (by decide) ?_
  refine Y.iinc X0 hx (hb hby d16_25) rfl (l' := #[.val (.ref a1), .val (.int (0 : Int32)), .val (.int (2 : Int32)), .val (.int (2 : Int32)), .val (.int (1 : Int32))]) rfl ?_
  refine Y.goto X0 hx (pc0 := 28) (pc' := 7) rfl (hb hby d16_28) (by decide) (by decide) ?_
  refine Y.iload X0 hx (hb hby d16_7) rfl ?_
  refine Y.iloadN X0 hx (hb hby d16_9) rfl ?_
  refine Y.icmpNo X0 hx (hb hby d16_10) rfl (tlt (show (1 : Int32) < (2 : Int32) from (by decide))).2.1 ?_
  refine Y.aloadN X0 hx (hb hby d16_13) rfl rfl ?_
  refine Y.iload X0 hx (hb hby d16_14) rfl ?_
  refine Gl.pre (fun _ k => own_ldB X0 hx hZ e0 V_a1 (j := (1 : Int32)) (i := 1) (by decide) (by decide) (Nat.lt_of_lt_of_eq (by decide : 1 < 2) rfl) (v := y1) rfl (g := (mkF m 16 #[.val (.ref a1), .val (.int (0 : Int32)), .val (.int (2 : Int32)), .val (.int (2 : Int32)), .val (.int (1 : Int32))] [(.int (1 : Int32)), (.ref a1)])) rfl rfl (hb hby d16_16) _ k) ?_
  refine Y.ifYes X0 hx (pc0 := 17) (pc' := 25) rfl (hb hby d16_17) rfl ((if0 _ _).trans (flt (show ¬ (y1 < (0 : Int32)) from hs1)).2.1) (by decide) (by decide) ?_
  refine Y.iinc X0 hx (hb hby d16_25) rfl (l' := #[.val (.ref a1), .val (.int (0 : Int32)), .val (.int (2 : Int32)), .val (.int (2 : Int32)), .val (.int (2 : Int32))]) rfl ?_
  refine Y.goto X0 hx (pc0 := 28) (pc' := 7) rfl (hb hby d16_28) (by decide) (by decide) ?_
  refine Y.iload X0 hx (hb hby d16_7) rfl ?_
  refine Y.iloadN X0 hx (hb hby d16_9) rfl ?_
  refine Y.icmpYes X0 hx (pc0 := 10) (pc' := 31) rfl (hb hby d16_10) rfl (flt (show ¬ ((2 : Int32) < (2 : Int32)) from (by decide))).2.1 (by decide) (by decide) ?_
  refine Y.iloadN X0 hx (hb hby d16_31) rfl ?_
  rw [hPP]
  refine own_finI (Q := (Qcp2_2 Z a1 y0 y1 h0 n0)) X0 hx hlk Bd.returns (hb hby d16_32) ?_ (by decide) (by decide)
  show Qcp2_2 Z a1 y0 y1 h0 n0 _ s₁.heap _
  rw [e0]
  exact ⟨rfl, N0, rfl⟩
theorem ef_hn2_2 (m : MethodId) (a1 : Addr) (y0 : Int32) (y1 : Int32) : entryFrame m #[(.ref a1), (.int (0 : Int32)), (.int (2 : Int32))] 3 = mkF m 0 #[.val (.ref a1), .val (.int (0 : Int32)), .val (.int (2 : Int32))] [] := by first | (simp [entryFrame, mkF, argsToLocals, Value.category]; done) | rfl
def Qhn2_2 (Z : State) (a1 : Addr) (y0 : Int32) (y1 : Int32) (h0 : Heap) (n0 : Nat) (v : Option Value) (h : Heap) (L : List Loc) : Prop := v = some (.int (0 : Int32)) ∧ Fr n0 L ∧ h = h0
set_option maxRecDepth 65536 in
set_option maxHeartbeats 40000000 in
theorem rmhn2_2 (l : Launch) (Z : State) (a0 : Array Value) (hw : ∀ d ∈ tables_1, d.before a0 Z = true) (ws : List Jvm.Cond) (a1 : Addr) (y0 : Int32) (y1 : Int32) (h0 : Heap) (n0 : Nat) (Z0 : n0 ≤ h0.size) (V_a1 : Bal Z h0 a1 .byte [y0, y1]) (hs0 : ¬ (y0 < (0 : Int32))) (hs1 : ¬ (y1 < (0 : Int32))) :
    MetFree l (⟨"java/lang/StringCoding", "hasNegatives", "([BII)Z"⟩ : MethodName) (head1 (Jvm.Cond.code (⟨"java/lang/StringCoding", "hasNegatives", "([BII)Z"⟩ : MethodName) jdk_123_method_2_code 3 (some .boolean) :: ws) ({ frames := 1, cells := 0, slots := 0, locals := 16 } : Room)) (fun a U => a = #[(.ref a1), (.int (0 : Int32)), (.int (2 : Int32))] ∧ Z.Warmed39 U.vm ∧ U.heap = h0) (fun _ _ _ _ _ => True) (fun _ U o U' => ∃ v L, o = .returned v ∧ Qhn2_2 Z a1 y0 y1 h0 n0 v U'.heap L ∧ FrameEnd U o U' L ({ frames := 1, cells := 0, slots := 0, locals := 16 } : Room).cells ({ frames := 1, cells := 0, slots := 0, locals := 16 } : Room).slots) := by
  have W := @own_wd Z a0 hw
  refine MetFree.of_bodySF (plainFor_of_name pn_15) hisR ?_
  intro p e s m args below meth c s₁ Bd hml0 hP hK
  obtain ⟨rfl, hZ, hh⟩ := hP
  have hx := Bd.exec
  have hby := Bd.bytes
  have hlk : meth.locks = false := BodyLoose.notSynchronized Bd
  have hml : c.maxLocals = 3 := hml0
  have hown : s.vm.findClass "java/lang/StringCoding" = some m.cls := findClass_of_methodNamed Bd.named
  have hnm := (name_of_methodNamed Bd.named Bd.method).1
  have X0 : Stand p l e ({ frames := 1, cells := 0, slots := 0, locals := 16 } : Room) s m #[(.ref a1), (.int (0 : Int32)), (.int (2 : Int32))] below meth c s₁ [] 0 0 := Stand.of_body Bd
  have e0 : s₁.heap = h0 := by rw [← hh, Bd.state]; rfl
  have N0 := Fr.nil n0
  show Gl p.tables e below _ _
  refine Gl.pre (fun t k => castTop (ef_hn2_2 m a1 y0 y1) k) ?_
  refine Gl.gen (fun PP hPP => ?_)
  show Gl p.tables e below PP (s₁.setTop (mkF m 0 #[.val (.ref a1), .val (.int (0 : Int32)), .val (.int (2 : Int32))] []))
  refine Y.aloadN X0 hx (hb hby d15_0) rfl rfl ?_
  refine Y.iloadN X0 hx (hb hby d15_1) rfl ?_
  refine Y.iloadN X0 hx (hb hby d15_2) rfl ?_
  obtain ⟨_, _, ⟨T1, L1, k1, n1⟩, -, X1, ⟨Lc1, hQ1, l1, y1, z1⟩, st1⟩ := Jvm.LawKit.callS X0 hx (y := (⟨"java/lang/StringCoding", "countPositives", "([BII)I"⟩ : MethodName)) hown (mvT hZ (W 73 rfl)) (mvT hZ (W 74 rfl)) (mvT hZ (W 71 rfl)) (mvT hZ (W 75 rfl)) (by decide) (backOf (W := 0) (rmcp2_2 l Z a0 hw [] a1 y0 y1 h0 n0 Z0 V_a1 hs0 hs1) hZ (W 75 rfl) (W 71 rfl) (by decide) (by decide)) (g := (mkF m 3 #[.val (.ref a1), .val (.int (0 : Int32)), .val (.int (2 : Int32))] [(.int (2 : Int32)), (.int (0 : Int32)), (.ref a1)])) rfl (by rw [hml]; rfl) (argsL := [(.ref a1), (.int (0 : Int32)), (.int (2 : Int32))]) (rest := []) (lenOf pd_8 rfl) rfl (by show 2 * 0 + _ ≤ _; exact Nat.le_of_eq rfl) (hb hby d15_3) (fun _ _ => ⟨rfl, e0, (by decide : 0 + 0 ≤ _), (by decide : 0 + 0 ≤ _)⟩)
  dsimp only [Pt.U, Pt.locs, Pt.cells, Pt.slots] at X1 l1 y1 z1 st1 hQ1
  subst l1 y1 z1
  obtain ⟨rfl, N1q, e1⟩ := hQ1
  have N1 := Fr.app N0 N1q
  refine Gl.pre (fun _ k => st1 _ k) ?_
  refine Y.iloadN X1 hx (hb hby d15_6) rfl ?_
  refine Y.icmpYes X1 hx (pc0 := 7) (pc' := 14) rfl (hb hby d15_7) rfl (teq (show (2 : Int32) = (2 : Int32) from (by decide))).1 (by decide) (by decide) ?_
  refine Y.iconst X1 hx (hb hby d15_14) ?_
  rw [hPP]
  refine own_finN (Q := (Qhn2_2 Z a1 y0 y1 h0 n0)) X1 hx hlk Bd.returns (t := .boolean) (z' := (0 : Int32)) (by simp) (by decide) (hb hby d15_15) ?_ (by decide) (by decide)
  show Qhn2_2 Z a1 y0 y1 h0 n0 _ T1.heap _
  rw [e1]
  exact ⟨rfl, N1, rfl⟩
theorem d28_0 : decode jdk_29_method_69_code 0 = .ok (.iload_n 0, 1) := by decide +kernel
theorem d28_1 : decode jdk_29_method_69_code 1 = .ok (.iload_n 1, 1) := by decide +kernel
theorem d28_2 : decode jdk_29_method_69_code 2 = .ok (.if_icmp .gt 7, 3) := by decide +kernel
theorem d28_9 : decode jdk_29_method_69_code 9 = .ok (.iload_n 1, 1) := by decide +kernel
theorem d28_10 : decode jdk_29_method_69_code 10 = .ok (.ireturn, 1) := by decide +kernel
theorem pn_28 : plainFor (⟨"java/lang/Math", "min", "(II)I"⟩ : MethodName) = true := Jvm.Free.JP.mathPlain rfl (by decide)
theorem ef_mn4_3 (m : MethodId)  : entryFrame m #[(.int (4 : Int32)), (.int (3 : Int32))] 2 = mkF m 0 #[.val (.int (4 : Int32)), .val (.int (3 : Int32))] [] := by first | (simp [entryFrame, mkF, argsToLocals, Value.category]; done) | rfl
def Qmn4_3 (Z : State)  (h0 : Heap) (n0 : Nat) (v : Option Value) (h : Heap) (L : List Loc) : Prop := v = some (.int (3 : Int32)) ∧ Fr n0 L ∧ h = h0
set_option maxRecDepth 65536 in
set_option maxHeartbeats 40000000 in
theorem rmmn4_3 (l : Launch) (Z : State) (a0 : Array Value) (hw : ∀ d ∈ tables_1, d.before a0 Z = true) (ws : List Jvm.Cond)  (h0 : Heap) (n0 : Nat) (Z0 : n0 ≤ h0.size)  :
    MetFree l (⟨"java/lang/Math", "min", "(II)I"⟩ : MethodName) (head1 (Jvm.Cond.code (⟨"java/lang/Math", "min", "(II)I"⟩ : MethodName) jdk_29_method_69_code 2 (some .int) :: ws) ({ frames := 0, cells := 0, slots := 0, locals := 0 } : Room)) (fun a U => a = #[(.int (4 : Int32)), (.int (3 : Int32))] ∧ Z.Warmed39 U.vm ∧ U.heap = h0) (fun _ _ _ _ _ => True) (fun _ U o U' => ∃ v L, o = .returned v ∧ Qmn4_3 Z  h0 n0 v U'.heap L ∧ FrameEnd U o U' L ({ frames := 0, cells := 0, slots := 0, locals := 0 } : Room).cells ({ frames := 0, cells := 0, slots := 0, locals := 0 } : Room).slots) := by
  have W := @own_wd Z a0 hw
  refine MetFree.of_bodySF pn_28 hisR ?_
  intro p e s m args below meth c s₁ Bd hml0 hP hK
  obtain ⟨rfl, hZ, hh⟩ := hP
  have hx := Bd.exec
  have hby := Bd.bytes
  have hlk : meth.locks = false := BodyLoose.notSynchronized Bd
  have hml : c.maxLocals = 2 := hml0
  have hown : s.vm.findClass "java/lang/Math" = some m.cls := findClass_of_methodNamed Bd.named
  have hnm := (name_of_methodNamed Bd.named Bd.method).1
  have X0 : Stand p l e ({ frames := 0, cells := 0, slots := 0, locals := 0 } : Room) s m #[(.int (4 : Int32)), (.int (3 : Int32))] below meth c s₁ [] 0 0 := Stand.of_body Bd
  have e0 : s₁.heap = h0 := by rw [← hh, Bd.state]; rfl
  have N0 := Fr.nil n0
  show Gl p.tables e below _ _
  refine Gl.pre (fun t k => castTop (ef_mn4_3 m ) k) ?_
  refine Gl.gen (fun PP hPP => ?_)
  show Gl p.tables e below PP (s₁.setTop (mkF m 0 #[.val (.int (4 : Int32)), .val (.int (3 : Int32))] []))
  refine Y.iloadN X0 hx (hb hby d28_0) rfl ?_
  refine Y.iloadN X0 hx (hb hby d28_1) rfl ?_
  refine Y.icmpYes X0 hx (pc0 := 2) (pc' := 9) rfl (hb hby d28_2) rfl (tlt (show (3 : Int32) < (4 : Int32) from (by decide))).2.2.1 (by decide) (by decide) ?_
  refine Y.iloadN X0 hx (hb hby d28_9) rfl ?_
  rw [hPP]
  refine own_finI (Q := (Qmn4_3 Z  h0 n0)) X0 hx hlk Bd.returns (hb hby d28_10) ?_ (by decide) (by decide)
  show Qmn4_3 Z  h0 n0 _ s₁.heap _
  rw [e0]
  exact ⟨rfl, N0, rfl⟩
theorem d27_0 : decode jdk_65_method_121_code 0 = .ok (.iload_n 1, 1) := by decide +kernel
theorem d27_1 : decode jdk_65_method_121_code 1 = .ok (.aload_n 0, 1) := by decide +kernel
theorem d27_2 : decode jdk_65_method_121_code 2 = .ok (.arraylength, 1) := by decide +kernel
theorem d27_3 : decode jdk_65_method_121_code 3 = .ok (.if_icmp .ne 11, 3) := by decide +kernel
theorem d27_14 : decode jdk_65_method_121_code 14 = .ok (.iload_n 1, 1) := by decide +kernel
theorem d27_15 : decode jdk_65_method_121_code 15 = .ok (.newarray .byte, 2) := by decide +kernel
theorem d27_17 : decode jdk_65_method_121_code 17 = .ok (.astore_n 2, 1) := by decide +kernel
theorem d27_18 : decode jdk_65_method_121_code 18 = .ok (.aload_n 0, 1) := by decide +kernel
theorem d27_19 : decode jdk_65_method_121_code 19 = .ok (.iconst 0, 1) := by decide +kernel
theorem d27_20 : decode jdk_65_method_121_code 20 = .ok (.aload_n 2, 1) := by decide +kernel
theorem d27_21 : decode jdk_65_method_121_code 21 = .ok (.iconst 0, 1) := by decide +kernel
theorem d27_22 : decode jdk_65_method_121_code 22 = .ok (.aload_n 0, 1) := by decide +kernel
theorem d27_23 : decode jdk_65_method_121_code 23 = .ok (.arraylength, 1) := by decide +kernel
theorem d27_24 : decode jdk_65_method_121_code 24 = .ok (.iload_n 1, 1) := by decide +kernel
theorem d27_25 : decode jdk_65_method_121_code 25 = .ok (.invokestatic 304, 3) := by decide +kernel
theorem d27_28 : decode jdk_65_method_121_code 28 = .ok (.invokestatic 150, 3) := by decide +kernel
theorem d27_31 : decode jdk_65_method_121_code 31 = .ok (.aload_n 2, 1) := by decide +kernel
theorem d27_32 : decode jdk_65_method_121_code 32 = .ok (.areturn, 1) := by decide +kernel
theorem pn_27 : plainName "java/util/Arrays" = true := by first | (simp [plainName, overriddenIn]; done) | decide +kernel
theorem ef_co4_3 (m : MethodId) (a1 : Addr) (x0 : Int32) (x1 : Int32) (x2 : Int32) (x3 : Int32) : entryFrame m #[(.ref a1), (.int (3 : Int32))] 3 = mkF m 0 #[.val (.ref a1), .val (.int (3 : Int32)), .unset] [] := by first | (simp [entryFrame, mkF, argsToLocals, Value.category]; done) | rfl
def Qco4_3 (Z : State) (a1 : Addr) (x0 : Int32) (x1 : Int32) (x2 : Int32) (x3 : Int32) (h0 : Heap) (n0 : Nat) (v : Option Value) (h : Heap) (L : List Loc) : Prop := ∃ b : Addr, v = some (.ref b) ∧ Fr n0 L ∧ h0.size ≤ b ∧ Keep h0 h [] ∧ Bal Z h b .byte [x0, x1, x2]
set_option maxRecDepth 65536 in
set_option maxHeartbeats 40000000 in
theorem rmco4_3 (l : Launch) (Z : State) (a0 : Array Value) (hw : ∀ d ∈ tables_1, d.before a0 Z = true) (ws : List Jvm.Cond) (a1 : Addr) (x0 : Int32) (x1 : Int32) (x2 : Int32) (x3 : Int32) (h0 : Heap) (n0 : Nat) (Z0 : n0 ≤ h0.size) (V_a1 : Bal Z h0 a1 .byte [x0, x1, x2, x3]) (hfx : own_fit [x0, x1, x2, x3]) :
    MetFree l (⟨"java/util/Arrays", "copyOf", "([BI)[B"⟩ : MethodName) (head1 (Jvm.Cond.code (⟨"java/util/Arrays", "copyOf", "([BI)[B"⟩ : MethodName) jdk_65_method_121_code 3 (some (.array .byte)) :: ws) ({ frames := 1, cells := 1, slots := 3, locals := 18 } : Room)) (fun a U => a = #[(.ref a1), (.int (3 : Int32))] ∧ Z.Warmed39 U.vm ∧ U.heap = h0) (fun _ _ _ _ _ => True) (fun _ U o U' => ∃ v L, o = .returned v ∧ Qco4_3 Z a1 x0 x1 x2 x3 h0 n0 v U'.heap L ∧ FrameEnd U o U' L ({ frames := 1, cells := 1, slots := 3, locals := 18 } : Room).cells ({ frames := 1, cells := 1, slots := 3, locals := 18 } : Room).slots) := by
  have W := @own_wd Z a0 hw
  refine MetFree.of_bodySF (plainFor_of_name pn_27) hisR ?_
  intro p e s m args below meth c s₁ Bd hml0 hP hK
  obtain ⟨rfl, hZ, hh⟩ := hP
  have hx := Bd.exec
  have hby := Bd.bytes
  have hlk : meth.locks = false := BodyLoose.notSynchronized Bd
  have hml : c.maxLocals = 3 := hml0
  have hown : s.vm.findClass "java/util/Arrays" = some m.cls := findClass_of_methodNamed Bd.named
  have hnm := (name_of_methodNamed Bd.named Bd.method).1
  have X0 : Stand p l e ({ frames := 1, cells := 1, slots := 3, locals := 18 } : Room) s m #[(.ref a1), (.int (3 : Int32))] below meth c s₁ [] 0 0 := Stand.of_body Bd
  have e0 : s₁.heap = h0 := by rw [← hh, Bd.state]; rfl
  have N0 := Fr.nil n0
  show Gl p.tables e below _ _
  refine Gl.pre (fun t k => castTop (ef_co4_3 m a1 x0 x1 x2 x3) k) ?_
  refine Gl.gen (fun PP hPP => ?_)
  have K0 : Keep h0 h0 [] := Keep.refl h0 _
  show Gl p.tables e below PP (s₁.setTop (mkF m 0 #[.val (.ref a1), .val (.int (3 : Int32)), .unset] []))
  refine Y.iloadN X0 hx (hb hby d27_0) rfl ?_
  refine Y.aloadN X0 hx (hb hby d27_1) rfl rfl ?_
  refine Gl.pre (fun _ k => own_len X0 hx hZ e0 V_a1 (v := (4 : Int32)) rfl (g := (mkF m 2 #[.val (.ref a1), .val (.int (3 : Int32)), .unset] [(.ref a1), (.int (3 : Int32))])) rfl rfl (hb hby d27_2) _ k) ?_
  refine Y.icmpYes X0 hx (pc0 := 3) (pc' := 14) rfl (hb hby d27_3) rfl (feq (show ¬ ((3 : Int32) = (4 : Int32)) from (by decide))).2 (by decide) (by decide) ?_
  refine Y.iloadN X0 hx (hb hby d27_14) rfl ?_
  obtain ⟨T1, h1, k1, X1, e1, E1, A1, st1⟩ := newP X0 hx hZ (W 28 rfl) e0 (g := (mkF m 15 #[.val (.ref a1), .val (.int (3 : Int32)), .unset] [(.int (3 : Int32))])) rfl (hb hby d27_15) rfl (by decide) (cap := 3) (by decide) (by decide) (by decide) (by decide)
  obtain ⟨b1, g1⟩ : ∃ z, z = h0.size := ⟨_, rfl⟩
  rw [← g1] at A1 st1
  refine Gl.pre (fun _ k => st1 _ k) ?_
  have own_ne_a1_b1 : a1 ≠ b1 := by have q := V_a1.lt; rw [g1]; exact Nat.ne_of_lt q
  have own_ne_b1_a1 : b1 ≠ a1 := own_ne_a1_b1.symm
  have g_b1 : n0 ≤ b1 := Nat.le_trans Z0 (Nat.le_of_eq g1.symm)
  have sz_b1 : h0.size ≤ b1 := Nat.le_trans K0.1 (Nat.le_of_eq g1.symm)
  have V_a1 := V_a1.ext E1
  have Z1 : n0 ≤ h1.size := Nat.le_trans Z0 E1.1
  have K1 := K0.ext E1
  have V_b1 : Bal Z h1 b1 .byte [(0 : Int32), (0 : Int32), (0 : Int32)] := Bal.new (ty := .byte) A1 (n := 3) (by decide) rfl
  refine Y.astoreN X1 hx (hb hby d27_17) rfl rfl (l' := #[.val (.ref a1), .val (.int (3 : Int32)), .val (.ref b1)]) rfl ?_
  refine Y.aloadN X1 hx (hb hby d27_18) rfl rfl ?_
  refine Y.iconst X1 hx (hb hby d27_19) ?_
  refine Y.aloadN X1 hx (hb hby d27_20) rfl rfl ?_
  refine Y.iconst X1 hx (hb hby d27_21) ?_
  refine Y.aloadN X1 hx (hb hby d27_22) rfl rfl ?_
  refine Gl.pre (fun _ k => own_len X1 hx hZ e1 V_a1 (v := (4 : Int32)) rfl (g := (mkF m 23 #[.val (.ref a1), .val (.int (3 : Int32)), .val (.ref b1)] [(.ref a1), (.int (0 : Int32)), (.ref b1), (.int (0 : Int32)), (.ref a1)])) rfl rfl (hb hby d27_23) _ k) ?_
  refine Y.iloadN X1 hx (hb hby d27_24) rfl ?_
  obtain ⟨_, _, ⟨T2, L2, k2, n2⟩, -, X2, ⟨Lc2, hQ2, l2, y2, z2⟩, st2⟩ := Jvm.LawKit.callS X1 hx (y := (⟨"java/lang/Math", "min", "(II)I"⟩ : MethodName)) hown (mvT hZ (W 133 rfl)) (mvT hZ (W 134 rfl)) (mvT hZ (W 135 rfl)) (mvT hZ (W 136 rfl)) (by decide) (backOf (W := 4) (rmmn4_3 l Z a0 hw []  h1 n0 Z1 ) hZ (W 136 rfl) (W 135 rfl) (by decide) (by decide)) (g := (mkF m 25 #[.val (.ref a1), .val (.int (3 : Int32)), .val (.ref b1)] [(.int (3 : Int32)), (.int (4 : Int32)), (.int (0 : Int32)), (.ref b1), (.int (0 : Int32)), (.ref a1)])) rfl (by rw [hml]; rfl) (argsL := [(.int (4 : Int32)), (.int (3 : Int32))]) (rest := [(.int (0 : Int32)), (.ref b1), (.int (0 : Int32)), (.ref a1)]) (lenOf pd_9 rfl) rfl (by show 2 * 0 + _ ≤ _; exact Nat.le_of_eq rfl) (hb hby d27_25) (fun _ _ => ⟨rfl, e1, (by decide : 1 + 0 ≤ _), (by decide : 3 + 0 ≤ _)⟩)
  dsimp only [Pt.U, Pt.locs, Pt.cells, Pt.slots] at X2 l2 y2 z2 st2 hQ2
  subst l2 y2 z2
  obtain ⟨rfl, N2q, e2⟩ := hQ2
  have N2 := Fr.app N0 N2q
  refine Gl.pre (fun _ k => st2 _ k) ?_
  obtain ⟨T3, h3, L3, X3, e3, N3, K3, V3q, st3⟩ := own_cpB X2 hx hZ hown (W 137 rfl) (W 94 rfl) (W 92 rfl) (W 93 rfl) e2 V_a1 V_b1 hfx (own_fit_rep 3) (d := 0) (k := 3) rfl rfl (by show 3 ≤ 4; decide) (by show 0 + 3 ≤ 3; decide) (by show 4 < 2 ^ 31; decide) (by show 3 < 2 ^ 31; decide) N2 g_b1 (g := (mkF m 28 #[.val (.ref a1), .val (.int (3 : Int32)), .val (.ref b1)] [(.int (3 : Int32)), (.int (0 : Int32)), (.ref b1), (.int (0 : Int32)), (.ref a1)])) rfl (by rw [hml]; rfl) rfl (hb hby d27_28) (by decide) (W := 0) (by show 2 * 0 + _ ≤ _; exact Nat.le_of_eq rfl) (by decide)
  refine Gl.pre (fun _ k => st3 _ k) ?_
  have V_a1 := V_a1.keep K3 (ninS (own_ne_a1_b1) nin0)
  have Z3 : n0 ≤ h3.size := Nat.le_trans Z1 K3.1
  have K3k := K1.trans K3 (allS (Or.inr sz_b1) all0)
  have V_b1 : Bal Z h3 b1 .byte [x0, x1, x2] := V3q
  show Gl p.tables e below PP (T3.setTop (mkF m 31 #[.val (.ref a1), .val (.int (3 : Int32)), .val (.ref b1)] []))
  refine Y.aloadN X3 hx (hb hby d27_31) rfl rfl ?_
  rw [hPP]
  refine own_finA (Q := (Qco4_3 Z a1 x0 x1 x2 x3 h0 n0)) X3 hx hlk Bd.returns rfl rfl (hb hby d27_32) ?_ (by decide) (by decide)
  show Qco4_3 Z a1 x0 x1 x2 x3 h0 n0 _ T3.heap _
  rw [e3]
  exact ⟨b1, rfl, N3, sz_b1, K3k, V_b1⟩
theorem ef_mn3_2 (m : MethodId)  : entryFrame m #[(.int (3 : Int32)), (.int (2 : Int32))] 2 = mkF m 0 #[.val (.int (3 : Int32)), .val (.int (2 : Int32))] [] := by first | (simp [entryFrame, mkF, argsToLocals, Value.category]; done) | rfl
def Qmn3_2 (Z : State)  (h0 : Heap) (n0 : Nat) (v : Option Value) (h : Heap) (L : List Loc) : Prop := v = some (.int (2 : Int32)) ∧ Fr n0 L ∧ h = h0
set_option maxRecDepth 65536 in
set_option maxHeartbeats 40000000 in
theorem rmmn3_2 (l : Launch) (Z : State) (a0 : Array Value) (hw : ∀ d ∈ tables_1, d.before a0 Z = true) (ws : List Jvm.Cond)  (h0 : Heap) (n0 : Nat) (Z0 : n0 ≤ h0.size)  :
    MetFree l (⟨"java/lang/Math", "min", "(II)I"⟩ : MethodName) (head1 (Jvm.Cond.code (⟨"java/lang/Math", "min", "(II)I"⟩ : MethodName) jdk_29_method_69_code 2 (some .int) :: ws) ({ frames := 0, cells := 0, slots := 0, locals := 0 } : Room)) (fun a U => a = #[(.int (3 : Int32)), (.int (2 : Int32))] ∧ Z.Warmed39 U.vm ∧ U.heap = h0) (fun _ _ _ _ _ => True) (fun _ U o U' => ∃ v L, o = .returned v ∧ Qmn3_2 Z  h0 n0 v U'.heap L ∧ FrameEnd U o U' L ({ frames := 0, cells := 0, slots := 0, locals := 0 } : Room).cells ({ frames := 0, cells := 0, slots := 0, locals := 0 } : Room).slots) := by
  have W := @own_wd Z a0 hw
  refine MetFree.of_bodySF pn_28 hisR ?_
  intro p e s m args below meth c s₁ Bd hml0 hP hK
  obtain ⟨rfl, hZ, hh⟩ := hP
  have hx := Bd.exec
  have hby := Bd.bytes
  have hlk : meth.locks = false := BodyLoose.notSynchronized Bd
  have hml : c.maxLocals = 2 := hml0
  have hown : s.vm.findClass "java/lang/Math" = some m.cls := findClass_of_methodNamed Bd.named
  have hnm := (name_of_methodNamed Bd.named Bd.method).1
  have X0 : Stand p l e ({ frames := 0, cells := 0, slots := 0, locals := 0 } : Room) s m #[(.int (3 : Int32)), (.int (2 : Int32))] below meth c s₁ [] 0 0 := Stand.of_body Bd
  have e0 : s₁.heap = h0 := by rw [← hh, Bd.state]; rfl
  have N0 := Fr.nil n0
  show Gl p.tables e below _ _
  refine Gl.pre (fun t k => castTop (ef_mn3_2 m ) k) ?_
  refine Gl.gen (fun PP hPP => ?_)
  show Gl p.tables e below PP (s₁.setTop (mkF m 0 #[.val (.int (3 : Int32)), .val (.int (2 : Int32))] []))
  refine Y.iloadN X0 hx (hb hby d28_0) rfl ?_
  refine Y.iloadN X0 hx (hb hby d28_1) rfl ?_
  refine Y.icmpYes X0 hx (pc0 := 2) (pc' := 9) rfl (hb hby d28_2) rfl (tlt (show (2 : Int32) < (3 : Int32) from (by decide))).2.2.1 (by decide) (by decide) ?_
  refine Y.iloadN X0 hx (hb hby d28_9) rfl ?_
  rw [hPP]
  refine own_finI (Q := (Qmn3_2 Z  h0 n0)) X0 hx hlk Bd.returns (hb hby d28_10) ?_ (by decide) (by decide)
  show Qmn3_2 Z  h0 n0 _ s₁.heap _
  rw [e0]
  exact ⟨rfl, N0, rfl⟩
theorem ef_co3_2 (m : MethodId) (a1 : Addr) (x0 : Int32) (x1 : Int32) (x2 : Int32) : entryFrame m #[(.ref a1), (.int (2 : Int32))] 3 = mkF m 0 #[.val (.ref a1), .val (.int (2 : Int32)), .unset] [] := by first | (simp [entryFrame, mkF, argsToLocals, Value.category]; done) | rfl
def Qco3_2 (Z : State) (a1 : Addr) (x0 : Int32) (x1 : Int32) (x2 : Int32) (h0 : Heap) (n0 : Nat) (v : Option Value) (h : Heap) (L : List Loc) : Prop := ∃ b : Addr, v = some (.ref b) ∧ Fr n0 L ∧ h0.size ≤ b ∧ Keep h0 h [] ∧ Bal Z h b .byte [x0, x1]
set_option maxRecDepth 65536 in
set_option maxHeartbeats 40000000 in
theorem rmco3_2 (l : Launch) (Z : State) (a0 : Array Value) (hw : ∀ d ∈ tables_1, d.before a0 Z = true) (ws : List Jvm.Cond) (a1 : Addr) (x0 : Int32) (x1 : Int32) (x2 : Int32) (h0 : Heap) (n0 : Nat) (Z0 : n0 ≤ h0.size) (V_a1 : Bal Z h0 a1 .byte [x0, x1, x2]) (hfx : own_fit [x0, x1, x2]) :
    MetFree l (⟨"java/util/Arrays", "copyOf", "([BI)[B"⟩ : MethodName) (head1 (Jvm.Cond.code (⟨"java/util/Arrays", "copyOf", "([BI)[B"⟩ : MethodName) jdk_65_method_121_code 3 (some (.array .byte)) :: ws) ({ frames := 1, cells := 1, slots := 2, locals := 18 } : Room)) (fun a U => a = #[(.ref a1), (.int (2 : Int32))] ∧ Z.Warmed39 U.vm ∧ U.heap = h0) (fun _ _ _ _ _ => True) (fun _ U o U' => ∃ v L, o = .returned v ∧ Qco3_2 Z a1 x0 x1 x2 h0 n0 v U'.heap L ∧ FrameEnd U o U' L ({ frames := 1, cells := 1, slots := 2, locals := 18 } : Room).cells ({ frames := 1, cells := 1, slots := 2, locals := 18 } : Room).slots) := by
  have W := @own_wd Z a0 hw
  refine MetFree.of_bodySF (plainFor_of_name pn_27) hisR ?_
  intro p e s m args below meth c s₁ Bd hml0 hP hK
  obtain ⟨rfl, hZ, hh⟩ := hP
  have hx := Bd.exec
  have hby := Bd.bytes
  have hlk : meth.locks = false := BodyLoose.notSynchronized Bd
  have hml : c.maxLocals = 3 := hml0
  have hown : s.vm.findClass "java/util/Arrays" = some m.cls := findClass_of_methodNamed Bd.named
  have hnm := (name_of_methodNamed Bd.named Bd.method).1
  have X0 : Stand p l e ({ frames := 1, cells := 1, slots := 2, locals := 18 } : Room) s m #[(.ref a1), (.int (2 : Int32))] below meth c s₁ [] 0 0 := Stand.of_body Bd
  have e0 : s₁.heap = h0 := by rw [← hh, Bd.state]; rfl
  have N0 := Fr.nil n0
  show Gl p.tables e below _ _
  refine Gl.pre (fun t k => castTop (ef_co3_2 m a1 x0 x1 x2) k) ?_
  refine Gl.gen (fun PP hPP => ?_)
  have K0 : Keep h0 h0 [] := Keep.refl h0 _
  show Gl p.tables e below PP (s₁.setTop (mkF m 0 #[.val (.ref a1), .val (.int (2 : Int32)), .unset] []))
  refine Y.iloadN X0 hx (hb hby d27_0) rfl ?_
  refine Y.aloadN X0 hx (hb hby d27_1) rfl rfl ?_
  refine Gl.pre (fun _ k => own_len X0 hx hZ e0 V_a1 (v := (3 : Int32)) rfl (g := (mkF m 2 #[.val (.ref a1), .val (.int (2 : Int32)), .unset] [(.ref a1), (.int (2 : Int32))])) rfl rfl (hb hby d27_2) _ k) ?_
  refine Y.icmpYes X0 hx (pc0 := 3) (pc' := 14) rfl (hb hby d27_3) rfl (feq (show ¬ ((2 : Int32) = (3 : Int32)) from (by decide))).2 (by decide) (by decide) ?_
  refine Y.iloadN X0 hx (hb hby d27_14) rfl ?_
  obtain ⟨T1, h1, k1, X1, e1, E1, A1, st1⟩ := newP X0 hx hZ (W 28 rfl) e0 (g := (mkF m 15 #[.val (.ref a1), .val (.int (2 : Int32)), .unset] [(.int (2 : Int32))])) rfl (hb hby d27_15) rfl (by decide) (cap := 2) (by decide) (by decide) (by decide) (by decide)
  obtain ⟨b1, g1⟩ : ∃ z, z = h0.size := ⟨_, rfl⟩
  rw [← g1] at A1 st1
  refine Gl.pre (fun _ k => st1 _ k) ?_
  have own_ne_a1_b1 : a1 ≠ b1 := by have q := V_a1.lt; rw [g1]; exact Nat.ne_of_lt q
  have own_ne_b1_a1 : b1 ≠ a1 := own_ne_a1_b1.symm
  have g_b1 : n0 ≤ b1 := Nat.le_trans Z0 (Nat.le_of_eq g1.symm)
  have sz_b1 : h0.size ≤ b1 := Nat.le_trans K0.1 (Nat.le_of_eq g1.symm)
  have V_a1 := V_a1.ext E1
  have Z1 : n0 ≤ h1.size := Nat.le_trans Z0 E1.1
  have K1 := K0.ext E1
  have V_b1 : Bal Z h1 b1 .byte [(0 : Int32), (0 : Int32)] := Bal.new (ty := .byte) A1 (n := 2) (by decide) rfl
  refine Y.astoreN X1 hx (hb hby d27_17) rfl rfl (l' := #[.val (.ref a1), .val (.int (2 : Int32)), .val (.ref b1)]) rfl ?_
  refine Y.aloadN X1 hx (hb hby d27_18) rfl rfl ?_
  refine Y.iconst X1 hx (hb hby d27_19) ?_
  refine Y.aloadN X1 hx (hb hby d27_20) rfl rfl ?_
  refine Y.iconst X1 hx (hb hby d27_21) ?_
  refine Y.aloadN X1 hx (hb hby d27_22) rfl rfl ?_
  refine Gl.pre (fun _ k => own_len X1 hx hZ e1 V_a1 (v := (3 : Int32)) rfl (g := (mkF m 23 #[.val (.ref a1), .val (.int (2 : Int32)), .val (.ref b1)] [(.ref a1), (.int (0 : Int32)), (.ref b1), (.int (0 : Int32)), (.ref a1)])) rfl rfl (hb hby d27_23) _ k) ?_
  refine Y.iloadN X1 hx (hb hby d27_24) rfl ?_
  obtain ⟨_, _, ⟨T2, L2, k2, n2⟩, -, X2, ⟨Lc2, hQ2, l2, y2, z2⟩, st2⟩ := Jvm.LawKit.callS X1 hx (y := (⟨"java/lang/Math", "min", "(II)I"⟩ : MethodName)) hown (mvT hZ (W 133 rfl)) (mvT hZ (W 134 rfl)) (mvT hZ (W 135 rfl)) (mvT hZ (W 136 rfl)) (by decide) (backOf (W := 4) (rmmn3_2 l Z a0 hw []  h1 n0 Z1 ) hZ (W 136 rfl) (W 135 rfl) (by decide) (by decide)) (g := (mkF m 25 #[.val (.ref a1), .val (.int (2 : Int32)), .val (.ref b1)] [(.int (2 : Int32)), (.int (3 : Int32)), (.int (0 : Int32)), (.ref b1), (.int (0 : Int32)), (.ref a1)])) rfl (by rw [hml]; rfl) (argsL := [(.int (3 : Int32)), (.int (2 : Int32))]) (rest := [(.int (0 : Int32)), (.ref b1), (.int (0 : Int32)), (.ref a1)]) (lenOf pd_9 rfl) rfl (by show 2 * 0 + _ ≤ _; exact Nat.le_of_eq rfl) (hb hby d27_25) (fun _ _ => ⟨rfl, e1, (by decide : 1 + 0 ≤ _), (by decide : 2 + 0 ≤ _)⟩)
  dsimp only [Pt.U, Pt.locs, Pt.cells, Pt.slots] at X2 l2 y2 z2 st2 hQ2
  subst l2 y2 z2
  obtain ⟨rfl, N2q, e2⟩ := hQ2
  have N2 := Fr.app N0 N2q
  refine Gl.pre (fun _ k => st2 _ k) ?_
  obtain ⟨T3, h3, L3, X3, e3, N3, K3, V3q, st3⟩ := own_cpB X2 hx hZ hown (W 137 rfl) (W 94 rfl) (W 92 rfl) (W 93 rfl) e2 V_a1 V_b1 hfx (own_fit_rep 2) (d := 0) (k := 2) rfl rfl (by show 2 ≤ 3; decide) (by show 0 + 2 ≤ 2; decide) (by show 3 < 2 ^ 31; decide) (by show 2 < 2 ^ 31; decide) N2 g_b1 (g := (mkF m 28 #[.val (.ref a1), .val (.int (2 : Int32)), .val (.ref b1)] [(.int (2 : Int32)), (.int (0 : Int32)), (.ref b1), (.int (0 : Int32)), (.ref a1)])) rfl (by rw [hml]; rfl) rfl (hb hby d27_28) (by decide) (W := 0) (by show 2 * 0 + _ ≤ _; exact Nat.le_of_eq rfl) (by decide)
  refine Gl.pre (fun _ k => st3 _ k) ?_
  have V_a1 := V_a1.keep K3 (ninS (own_ne_a1_b1) nin0)
  have Z3 : n0 ≤ h3.size := Nat.le_trans Z1 K3.1
  have K3k := K1.trans K3 (allS (Or.inr sz_b1) all0)
  have V_b1 : Bal Z h3 b1 .byte [x0, x1] := V3q
  show Gl p.tables e below PP (T3.setTop (mkF m 31 #[.val (.ref a1), .val (.int (2 : Int32)), .val (.ref b1)] []))
  refine Y.aloadN X3 hx (hb hby d27_31) rfl rfl ?_
  rw [hPP]
  refine own_finA (Q := (Qco3_2 Z a1 x0 x1 x2 h0 n0)) X3 hx hlk Bd.returns rfl rfl (hb hby d27_32) ?_ (by decide) (by decide)
  show Qco3_2 Z a1 x0 x1 x2 h0 n0 _ T3.heap _
  rw [e3]
  exact ⟨b1, rfl, N3, sz_b1, K3k, V_b1⟩
theorem ef_mn6_3 (m : MethodId)  : entryFrame m #[(.int (6 : Int32)), (.int (3 : Int32))] 2 = mkF m 0 #[.val (.int (6 : Int32)), .val (.int (3 : Int32))] [] := by first | (simp [entryFrame, mkF, argsToLocals, Value.category]; done) | rfl
def Qmn6_3 (Z : State)  (h0 : Heap) (n0 : Nat) (v : Option Value) (h : Heap) (L : List Loc) : Prop := v = some (.int (3 : Int32)) ∧ Fr n0 L ∧ h = h0
set_option maxRecDepth 65536 in
set_option maxHeartbeats 40000000 in
theorem rmmn6_3 (l : Launch) (Z : State) (a0 : Array Value) (hw : ∀ d ∈ tables_1, d.before a0 Z = true) (ws : List Jvm.Cond)  (h0 : Heap) (n0 : Nat) (Z0 : n0 ≤ h0.size)  :
    MetFree l (⟨"java/lang/Math", "min", "(II)I"⟩ : MethodName) (head1 (Jvm.Cond.code (⟨"java/lang/Math", "min", "(II)I"⟩ : MethodName) jdk_29_method_69_code 2 (some .int) :: ws) ({ frames := 0, cells := 0, slots := 0, locals := 0 } : Room)) (fun a U => a = #[(.int (6 : Int32)), (.int (3 : Int32))] ∧ Z.Warmed39 U.vm ∧ U.heap = h0) (fun _ _ _ _ _ => True) (fun _ U o U' => ∃ v L, o = .returned v ∧ Qmn6_3 Z  h0 n0 v U'.heap L ∧ FrameEnd U o U' L ({ frames := 0, cells := 0, slots := 0, locals := 0 } : Room).cells ({ frames := 0, cells := 0, slots := 0, locals := 0 } : Room).slots) := by
  have W := @own_wd Z a0 hw
  refine MetFree.of_bodySF pn_28 hisR ?_
  intro p e s m args below meth c s₁ Bd hml0 hP hK
  obtain ⟨rfl, hZ, hh⟩ := hP
  have hx := Bd.exec
  have hby := Bd.bytes
  have hlk : meth.locks = false := BodyLoose.notSynchronized Bd
  have hml : c.maxLocals = 2 := hml0
  have hown : s.vm.findClass "java/lang/Math" = some m.cls := findClass_of_methodNamed Bd.named
  have hnm := (name_of_methodNamed Bd.named Bd.method).1
  have X0 : Stand p l e ({ frames := 0, cells := 0, slots := 0, locals := 0 } : Room) s m #[(.int (6 : Int32)), (.int (3 : Int32))] below meth c s₁ [] 0 0 := Stand.of_body Bd
  have e0 : s₁.heap = h0 := by rw [← hh, Bd.state]; rfl
  have N0 := Fr.nil n0
  show Gl p.tables e below _ _
  refine Gl.pre (fun t k => castTop (ef_mn6_3 m ) k) ?_
  refine Gl.gen (fun PP hPP => ?_)
  show Gl p.tables e below PP (s₁.setTop (mkF m 0 #[.val (.int (6 : Int32)), .val (.int (3 : Int32))] []))
  refine Y.iloadN X0 hx (hb hby d28_0) rfl ?_
  refine Y.iloadN X0 hx (hb hby d28_1) rfl ?_
  refine Y.icmpYes X0 hx (pc0 := 2) (pc' := 9) rfl (hb hby d28_2) rfl (tlt (show (3 : Int32) < (6 : Int32) from (by decide))).2.2.1 (by decide) (by decide) ?_
  refine Y.iloadN X0 hx (hb hby d28_9) rfl ?_
  rw [hPP]
  refine own_finI (Q := (Qmn6_3 Z  h0 n0)) X0 hx hlk Bd.returns (hb hby d28_10) ?_ (by decide) (by decide)
  show Qmn6_3 Z  h0 n0 _ s₁.heap _
  rw [e0]
  exact ⟨rfl, N0, rfl⟩
theorem ef_co6_3 (m : MethodId) (a1 : Addr) (x0 : Int32) (x1 : Int32) (x2 : Int32) (x3 : Int32) (x4 : Int32) (x5 : Int32) : entryFrame m #[(.ref a1), (.int (3 : Int32))] 3 = mkF m 0 #[.val (.ref a1), .val (.int (3 : Int32)), .unset] [] := by first | (simp [entryFrame, mkF, argsToLocals, Value.category]; done) | rfl
def Qco6_3 (Z : State) (a1 : Addr) (x0 : Int32) (x1 : Int32) (x2 : Int32) (x3 : Int32) (x4 : Int32) (x5 : Int32) (h0 : Heap) (n0 : Nat) (v : Option Value) (h : Heap) (L : List Loc) : Prop := ∃ b : Addr, v = some (.ref b) ∧ Fr n0 L ∧ h0.size ≤ b ∧ Keep h0 h [] ∧ Bal Z h b .byte [x0, x1, x2]
set_option maxRecDepth 65536 in
set_option maxHeartbeats 40000000 in
theorem rmco6_3 (l : Launch) (Z : State) (a0 : Array Value) (hw : ∀ d ∈ tables_1, d.before a0 Z = true) (ws : List Jvm.Cond) (a1 : Addr) (x0 : Int32) (x1 : Int32) (x2 : Int32) (x3 : Int32) (x4 : Int32) (x5 : Int32) (h0 : Heap) (n0 : Nat) (Z0 : n0 ≤ h0.size) (V_a1 : Bal Z h0 a1 .byte [x0, x1, x2, x3, x4, x5]) (hfx : own_fit [x0, x1, x2, x3, x4, x5]) :
    MetFree l (⟨"java/util/Arrays", "copyOf", "([BI)[B"⟩ : MethodName) (head1 (Jvm.Cond.code (⟨"java/util/Arrays", "copyOf", "([BI)[B"⟩ : MethodName) jdk_65_method_121_code 3 (some (.array .byte)) :: ws) ({ frames := 1, cells := 1, slots := 3, locals := 18 } : Room)) (fun a U => a = #[(.ref a1), (.int (3 : Int32))] ∧ Z.Warmed39 U.vm ∧ U.heap = h0) (fun _ _ _ _ _ => True) (fun _ U o U' => ∃ v L, o = .returned v ∧ Qco6_3 Z a1 x0 x1 x2 x3 x4 x5 h0 n0 v U'.heap L ∧ FrameEnd U o U' L ({ frames := 1, cells := 1, slots := 3, locals := 18 } : Room).cells ({ frames := 1, cells := 1, slots := 3, locals := 18 } : Room).slots) := by
  have W := @own_wd Z a0 hw
  refine MetFree.of_bodySF (plainFor_of_name pn_27) hisR ?_
  intro p e s m args below meth c s₁ Bd hml0 hP hK
  obtain ⟨rfl, hZ, hh⟩ := hP
  have hx := Bd.exec
  have hby := Bd.bytes
  have hlk : meth.locks = false := BodyLoose.notSynchronized Bd
  have hml : c.maxLocals = 3 := hml0
  have hown : s.vm.findClass "java/util/Arrays" = some m.cls := findClass_of_methodNamed Bd.named
  have hnm := (name_of_methodNamed Bd.named Bd.method).1
  have X0 : Stand p l e ({ frames := 1, cells := 1, slots := 3, locals := 18 } : Room) s m #[(.ref a1), (.int (3 : Int32))] below meth c s₁ [] 0 0 := Stand.of_body Bd
  have e0 : s₁.heap = h0 := by rw [← hh, Bd.state]; rfl
  have N0 := Fr.nil n0
  show Gl p.tables e below _ _
  refine Gl.pre (fun t k => castTop (ef_co6_3 m a1 x0 x1 x2 x3 x4 x5) k) ?_
  refine Gl.gen (fun PP hPP => ?_)
  have K0 : Keep h0 h0 [] := Keep.refl h0 _
  show Gl p.tables e below PP (s₁.setTop (mkF m 0 #[.val (.ref a1), .val (.int (3 : Int32)), .unset] []))
  refine Y.iloadN X0 hx (hb hby d27_0) rfl ?_
  refine Y.aloadN X0 hx (hb hby d27_1) rfl rfl ?_
  refine Gl.pre (fun _ k => own_len X0 hx hZ e0 V_a1 (v := (6 : Int32)) rfl (g := (mkF m 2 #[.val (.ref a1), .val (.int (3 : Int32)), .unset] [(.ref a1), (.int (3 : Int32))])) rfl rfl (hb hby d27_2) _ k) ?_
  refine Y.icmpYes X0 hx (pc0 := 3) (pc' := 14) rfl (hb hby d27_3) rfl (feq (show ¬ ((3 : Int32) = (6 : Int32)) from (by decide))).2 (by decide) (by decide) ?_
  refine Y.iloadN X0 hx (hb hby d27_14) rfl ?_
  obtain ⟨T1, h1, k1, X1, e1, E1, A1, st1⟩ := newP X0 hx hZ (W 28 rfl) e0 (g := (mkF m 15 #[.val (.ref a1), .val (.int (3 : Int32)), .unset] [(.int (3 : Int32))])) rfl (hb hby d27_15) rfl (by decide) (cap := 3) (by decide) (by decide) (by decide) (by decide)
  obtain ⟨b1, g1⟩ : ∃ z, z = h0.size := ⟨_, rfl⟩
  rw [← g1] at A1 st1
  refine Gl.pre (fun _ k => st1 _ k) ?_
  have own_ne_a1_b1 : a1 ≠ b1 := by have q := V_a1.lt; rw [g1]; exact Nat.ne_of_lt q
  have own_ne_b1_a1 : b1 ≠ a1 := own_ne_a1_b1.symm
  have g_b1 : n0 ≤ b1 := Nat.le_trans Z0 (Nat.le_of_eq g1.symm)
  have sz_b1 : h0.size ≤ b1 := Nat.le_trans K0.1 (Nat.le_of_eq g1.symm)
  have V_a1 := V_a1.ext E1
  have Z1 : n0 ≤ h1.size := Nat.le_trans Z0 E1.1
  have K1 := K0.ext E1
  have V_b1 : Bal Z h1 b1 .byte [(0 : Int32), (0 : Int32), (0 : Int32)] := Bal.new (ty := .byte) A1 (n := 3) (by decide) rfl
  refine Y.astoreN X1 hx (hb hby d27_17) rfl rfl (l' := #[.val (.ref a1), .val (.int (3 : Int32)), .val (.ref b1)]) rfl ?_
  refine Y.aloadN X1 hx (hb hby d27_18) rfl rfl ?_
  refine Y.iconst X1 hx (hb hby d27_19) ?_
  refine Y.aloadN X1 hx (hb hby d27_20) rfl rfl ?_
  refine Y.iconst X1 hx (hb hby d27_21) ?_
  refine Y.aloadN X1 hx (hb hby d27_22) rfl rfl ?_
  refine Gl.pre (fun _ k => own_len X1 hx hZ e1 V_a1 (v := (6 : Int32)) rfl (g := (mkF m 23 #[.val (.ref a1), .val (.int (3 : Int32)), .val (.ref b1)] [(.ref a1), (.int (0 : Int32)), (.ref b1), (.int (0 : Int32)), (.ref a1)])) rfl rfl (hb hby d27_23) _ k) ?_
  refine Y.iloadN X1 hx (hb hby d27_24) rfl ?_
  obtain ⟨_, _, ⟨T2, L2, k2, n2⟩, -, X2, ⟨Lc2, hQ2, l2, y2, z2⟩, st2⟩ := Jvm.LawKit.callS X1 hx (y := (⟨"java/lang/Math", "min", "(II)I"⟩ : MethodName)) hown (mvT hZ (W 133 rfl)) (mvT hZ (W 134 rfl)) (mvT hZ (W 135 rfl)) (mvT hZ (W 136 rfl)) (by decide) (backOf (W := 4) (rmmn6_3 l Z a0 hw []  h1 n0 Z1 ) hZ (W 136 rfl) (W 135 rfl) (by decide) (by decide)) (g := (mkF m 25 #[.val (.ref a1), .val (.int (3 : Int32)), .val (.ref b1)] [(.int (3 : Int32)), (.int (6 : Int32)), (.int (0 : Int32)), (.ref b1), (.int (0 : Int32)), (.ref a1)])) rfl (by rw [hml]; rfl) (argsL := [(.int (6 : Int32)), (.int (3 : Int32))]) (rest := [(.int (0 : Int32)), (.ref b1), (.int (0 : Int32)), (.ref a1)]) (lenOf pd_9 rfl) rfl (by show 2 * 0 + _ ≤ _; exact Nat.le_of_eq rfl) (hb hby d27_25) (fun _ _ => ⟨rfl, e1, (by decide : 1 + 0 ≤ _), (by decide : 3 + 0 ≤ _)⟩)
  dsimp only [Pt.U, Pt.locs, Pt.cells, Pt.slots] at X2 l2 y2 z2 st2 hQ2
  subst l2 y2 z2
  obtain ⟨rfl, N2q, e2⟩ := hQ2
  have N2 := Fr.app N0 N2q
  refine Gl.pre (fun _ k => st2 _ k) ?_
  obtain ⟨T3, h3, L3, X3, e3, N3, K3, V3q, st3⟩ := own_cpB X2 hx hZ hown (W 137 rfl) (W 94 rfl) (W 92 rfl) (W 93 rfl) e2 V_a1 V_b1 hfx (own_fit_rep 3) (d := 0) (k := 3) rfl rfl (by show 3 ≤ 6; decide) (by show 0 + 3 ≤ 3; decide) (by show 6 < 2 ^ 31; decide) (by show 3 < 2 ^ 31; decide) N2 g_b1 (g := (mkF m 28 #[.val (.ref a1), .val (.int (3 : Int32)), .val (.ref b1)] [(.int (3 : Int32)), (.int (0 : Int32)), (.ref b1), (.int (0 : Int32)), (.ref a1)])) rfl (by rw [hml]; rfl) rfl (hb hby d27_28) (by decide) (W := 0) (by show 2 * 0 + _ ≤ _; exact Nat.le_of_eq rfl) (by decide)
  refine Gl.pre (fun _ k => st3 _ k) ?_
  have V_a1 := V_a1.keep K3 (ninS (own_ne_a1_b1) nin0)
  have Z3 : n0 ≤ h3.size := Nat.le_trans Z1 K3.1
  have K3k := K1.trans K3 (allS (Or.inr sz_b1) all0)
  have V_b1 : Bal Z h3 b1 .byte [x0, x1, x2] := V3q
  show Gl p.tables e below PP (T3.setTop (mkF m 31 #[.val (.ref a1), .val (.int (3 : Int32)), .val (.ref b1)] []))
  refine Y.aloadN X3 hx (hb hby d27_31) rfl rfl ?_
  rw [hPP]
  refine own_finA (Q := (Qco6_3 Z a1 x0 x1 x2 x3 x4 x5 h0 n0)) X3 hx hlk Bd.returns rfl rfl (hb hby d27_32) ?_ (by decide) (by decide)
  show Qco6_3 Z a1 x0 x1 x2 x3 x4 x5 h0 n0 _ T3.heap _
  rw [e3]
  exact ⟨b1, rfl, N3, sz_b1, K3k, V_b1⟩
theorem ef_mn6_4 (m : MethodId)  : entryFrame m #[(.int (6 : Int32)), (.int (4 : Int32))] 2 = mkF m 0 #[.val (.int (6 : Int32)), .val (.int (4 : Int32))] [] := by first | (simp [entryFrame, mkF, argsToLocals, Value.category]; done) | rfl
def Qmn6_4 (Z : State)  (h0 : Heap) (n0 : Nat) (v : Option Value) (h : Heap) (L : List Loc) : Prop := v = some (.int (4 : Int32)) ∧ Fr n0 L ∧ h = h0
set_option maxRecDepth 65536 in
set_option maxHeartbeats 40000000 in
theorem rmmn6_4 (l : Launch) (Z : State) (a0 : Array Value) (hw : ∀ d ∈ tables_1, d.before a0 Z = true) (ws : List Jvm.Cond)  (h0 : Heap) (n0 : Nat) (Z0 : n0 ≤ h0.size)  :
    MetFree l (⟨"java/lang/Math", "min", "(II)I"⟩ : MethodName) (head1 (Jvm.Cond.code (⟨"java/lang/Math", "min", "(II)I"⟩ : MethodName) jdk_29_method_69_code 2 (some .int) :: ws) ({ frames := 0, cells := 0, slots := 0, locals := 0 } : Room)) (fun a U => a = #[(.int (6 : Int32)), (.int (4 : Int32))] ∧ Z.Warmed39 U.vm ∧ U.heap = h0) (fun _ _ _ _ _ => True) (fun _ U o U' => ∃ v L, o = .returned v ∧ Qmn6_4 Z  h0 n0 v U'.heap L ∧ FrameEnd U o U' L ({ frames := 0, cells := 0, slots := 0, locals := 0 } : Room).cells ({ frames := 0, cells := 0, slots := 0, locals := 0 } : Room).slots) := by
  have W := @own_wd Z a0 hw
  refine MetFree.of_bodySF pn_28 hisR ?_
  intro p e s m args below meth c s₁ Bd hml0 hP hK
  obtain ⟨rfl, hZ, hh⟩ := hP
  have hx := Bd.exec
  have hby := Bd.bytes
  have hlk : meth.locks = false := BodyLoose.notSynchronized Bd
  have hml : c.maxLocals = 2 := hml0
  have hown : s.vm.findClass "java/lang/Math" = some m.cls := findClass_of_methodNamed Bd.named
  have hnm := (name_of_methodNamed Bd.named Bd.method).1
  have X0 : Stand p l e ({ frames := 0, cells := 0, slots := 0, locals := 0 } : Room) s m #[(.int (6 : Int32)), (.int (4 : Int32))] below meth c s₁ [] 0 0 := Stand.of_body Bd
  have e0 : s₁.heap = h0 := by rw [← hh, Bd.state]; rfl
  have N0 := Fr.nil n0
  show Gl p.tables e below _ _
  refine Gl.pre (fun t k => castTop (ef_mn6_4 m ) k) ?_
  refine Gl.gen (fun PP hPP => ?_)
  show Gl p.tables e below PP (s₁.setTop (mkF m 0 #[.val (.int (6 : Int32)), .val (.int (4 : Int32))] []))
  refine Y.iloadN X0 hx (hb hby d28_0) rfl ?_
  refine Y.iloadN X0 hx (hb hby d28_1) rfl ?_
  refine Y.icmpYes X0 hx (pc0 := 2) (pc' := 9) rfl (hb hby d28_2) rfl (tlt (show (4 : Int32) < (6 : Int32) from (by decide))).2.2.1 (by decide) (by decide) ?_
  refine Y.iloadN X0 hx (hb hby d28_9) rfl ?_
  rw [hPP]
  refine own_finI (Q := (Qmn6_4 Z  h0 n0)) X0 hx hlk Bd.returns (hb hby d28_10) ?_ (by decide) (by decide)
  show Qmn6_4 Z  h0 n0 _ s₁.heap _
  rw [e0]
  exact ⟨rfl, N0, rfl⟩
theorem ef_co6_4 (m : MethodId) (a1 : Addr) (x0 : Int32) (x1 : Int32) (x2 : Int32) (x3 : Int32) (x4 : Int32) (x5 : Int32) : entryFrame m #[(.ref a1), (.int (4 : Int32))] 3 = mkF m 0 #[.val (.ref a1), .val (.int (4 : Int32)), .unset] [] := by first | (simp [entryFrame, mkF, argsToLocals, Value.category]; done) | rfl
def Qco6_4 (Z : State) (a1 : Addr) (x0 : Int32) (x1 : Int32) (x2 : Int32) (x3 : Int32) (x4 : Int32) (x5 : Int32) (h0 : Heap) (n0 : Nat) (v : Option Value) (h : Heap) (L : List Loc) : Prop := ∃ b : Addr, v = some (.ref b) ∧ Fr n0 L ∧ h0.size ≤ b ∧ Keep h0 h [] ∧ Bal Z h b .byte [x0, x1, x2, x3]
set_option maxRecDepth 65536 in
set_option maxHeartbeats 40000000 in
theorem rmco6_4 (l : Launch) (Z : State) (a0 : Array Value) (hw : ∀ d ∈ tables_1, d.before a0 Z = true) (ws : List Jvm.Cond) (a1 : Addr) (x0 : Int32) (x1 : Int32) (x2 : Int32) (x3 : Int32) (x4 : Int32) (x5 : Int32) (h0 : Heap) (n0 : Nat) (Z0 : n0 ≤ h0.size) (V_a1 : Bal Z h0 a1 .byte [x0, x1, x2, x3, x4, x5]) (hfx : own_fit [x0, x1, x2, x3, x4, x5]) :
    MetFree l (⟨"java/util/Arrays", "copyOf", "([BI)[B"⟩ : MethodName) (head1 (Jvm.Cond.code (⟨"java/util/Arrays", "copyOf", "([BI)[B"⟩ : MethodName) jdk_65_method_121_code 3 (some (.array .byte)) :: ws) ({ frames := 1, cells := 1, slots := 4, locals := 18 } : Room)) (fun a U => a = #[(.ref a1), (.int (4 : Int32))] ∧ Z.Warmed39 U.vm ∧ U.heap = h0) (fun _ _ _ _ _ => True) (fun _ U o U' => ∃ v L, o = .returned v ∧ Qco6_4 Z a1 x0 x1 x2 x3 x4 x5 h0 n0 v U'.heap L ∧ FrameEnd U o U' L ({ frames := 1, cells := 1, slots := 4, locals := 18 } : Room).cells ({ frames := 1, cells := 1, slots := 4, locals := 18 } : Room).slots) := by
  have W := @own_wd Z a0 hw
  refine MetFree.of_bodySF (plainFor_of_name pn_27) hisR ?_
  intro p e s m args below meth c s₁ Bd hml0 hP hK
  obtain ⟨rfl, hZ, hh⟩ := hP
  have hx := Bd.exec
  have hby := Bd.bytes
  have hlk : meth.locks = false := BodyLoose.notSynchronized Bd
  have hml : c.maxLocals = 3 := hml0
  have hown : s.vm.findClass "java/util/Arrays" = some m.cls := findClass_of_methodNamed Bd.named
  have hnm := (name_of_methodNamed Bd.named Bd.method).1
  have X0 : Stand p l e ({ frames := 1, cells := 1, slots := 4, locals := 18 } : Room) s m #[(.ref a1), (.int (4 : Int32))] below meth c s₁ [] 0 0 := Stand.of_body Bd
  have e0 : s₁.heap = h0 := by rw [← hh, Bd.state]; rfl
  have N0 := Fr.nil n0
  show Gl p.tables e below _ _
  refine Gl.pre (fun t k => castTop (ef_co6_4 m a1 x0 x1 x2 x3 x4 x5) k) ?_
  refine Gl.gen (fun PP hPP => ?_)
  have K0 : Keep h0 h0 [] := Keep.refl h0 _
  show Gl p.tables e below PP (s₁.setTop (mkF m 0 #[.val (.ref a1), .val (.int (4 : Int32)), .unset] []))
  refine Y.iloadN X0 hx (hb hby d27_0) rfl ?_
  refine Y.aloadN X0 hx (hb hby d27_1) rfl rfl ?_
  refine Gl.pre (fun _ k => own_len X0 hx hZ e0 V_a1 (v := (6 : Int32)) rfl (g := (mkF m 2 #[.val (.ref a1), .val (.int (4 : Int32)), .unset] [(.ref a1), (.int (4 : Int32))])) rfl rfl (hb hby d27_2) _ k) ?_
  refine Y.icmpYes X0 hx (pc0 := 3) (pc' := 14) rfl (hb hby d27_3) rfl (feq (show ¬ ((4 : Int32) = (6 : Int32)) from (by decide))).2 (by decide) (by decide) ?_
  refine Y.iloadN X0 hx (hb hby d27_14) rfl ?_
  obtain ⟨T1, h1, k1, X1, e1, E1, A1, st1⟩ := newP X0 hx hZ (W 28 rfl) e0 (g := (mkF m 15 #[.val (.ref a1), .val (.int (4 : Int32)), .unset] [(.int (4 : Int32))])) rfl (hb hby d27_15) rfl (by decide) (cap := 4) (by decide) (by decide) (by decide) (by decide)
  obtain ⟨b1, g1⟩ : ∃ z, z = h0.size := ⟨_, rfl⟩
  rw [← g1] at A1 st1
  refine Gl.pre (fun _ k => st1 _ k) ?_
  have own_ne_a1_b1 : a1 ≠ b1 := by have q := V_a1.lt; rw [g1]; exact Nat.ne_of_lt q
  have own_ne_b1_a1 : b1 ≠ a1 := own_ne_a1_b1.symm
  have g_b1 : n0 ≤ b1 := Nat.le_trans Z0 (Nat.le_of_eq g1.symm)
  have sz_b1 : h0.size ≤ b1 := Nat.le_trans K0.1 (Nat.le_of_eq g1.symm)
  have V_a1 := V_a1.ext E1
  have Z1 : n0 ≤ h1.size := Nat.le_trans Z0 E1.1
  have K1 := K0.ext E1
  have V_b1 : Bal Z h1 b1 .byte [(0 : Int32), (0 : Int32), (0 : Int32), (0 : Int32)] := Bal.new (ty := .byte) A1 (n := 4) (by decide) rfl
  refine Y.astoreN X1 hx (hb hby d27_17) rfl rfl (l' := #[.val (.ref a1), .val (.int (4 : Int32)), .val (.ref b1)]) rfl ?_
  refine Y.aloadN X1 hx (hb hby d27_18) rfl rfl ?_
  refine Y.iconst X1 hx (hb hby d27_19) ?_
  refine Y.aloadN X1 hx (hb hby d27_20) rfl rfl ?_
  refine Y.iconst X1 hx (hb hby d27_21) ?_
  refine Y.aloadN X1 hx (hb hby d27_22) rfl rfl ?_
  refine Gl.pre (fun _ k => own_len X1 hx hZ e1 V_a1 (v := (6 : Int32)) rfl (g := (mkF m 23 #[.val (.ref a1), .val (.int (4 : Int32)), .val (.ref b1)] [(.ref a1), (.int (0 : Int32)), (.ref b1), (.int (0 : Int32)), (.ref a1)])) rfl rfl (hb hby d27_23) _ k) ?_
  refine Y.iloadN X1 hx (hb hby d27_24) rfl ?_
  obtain ⟨_, _, ⟨T2, L2, k2, n2⟩, -, X2, ⟨Lc2, hQ2, l2, y2, z2⟩, st2⟩ := Jvm.LawKit.callS X1 hx (y := (⟨"java/lang/Math", "min", "(II)I"⟩ : MethodName)) hown (mvT hZ (W 133 rfl)) (mvT hZ (W 134 rfl)) (mvT hZ (W 135 rfl)) (mvT hZ (W 136 rfl)) (by decide) (backOf (W := 4) (rmmn6_4 l Z a0 hw []  h1 n0 Z1 ) hZ (W 136 rfl) (W 135 rfl) (by decide) (by decide)) (g := (mkF m 25 #[.val (.ref a1), .val (.int (4 : Int32)), .val (.ref b1)] [(.int (4 : Int32)), (.int (6 : Int32)), (.int (0 : Int32)), (.ref b1), (.int (0 : Int32)), (.ref a1)])) rfl (by rw [hml]; rfl) (argsL := [(.int (6 : Int32)), (.int (4 : Int32))]) (rest := [(.int (0 : Int32)), (.ref b1), (.int (0 : Int32)), (.ref a1)]) (lenOf pd_9 rfl) rfl (by show 2 * 0 + _ ≤ _; exact Nat.le_of_eq rfl) (hb hby d27_25) (fun _ _ => ⟨rfl, e1, (by decide : 1 + 0 ≤ _), (by decide : 4 + 0 ≤ _)⟩)
  dsimp only [Pt.U, Pt.locs, Pt.cells, Pt.slots] at X2 l2 y2 z2 st2 hQ2
  subst l2 y2 z2
  obtain ⟨rfl, N2q, e2⟩ := hQ2
  have N2 := Fr.app N0 N2q
  refine Gl.pre (fun _ k => st2 _ k) ?_
  obtain ⟨T3, h3, L3, X3, e3, N3, K3, V3q, st3⟩ := own_cpB X2 hx hZ hown (W 137 rfl) (W 94 rfl) (W 92 rfl) (W 93 rfl) e2 V_a1 V_b1 hfx (own_fit_rep 4) (d := 0) (k := 4) rfl rfl (by show 4 ≤ 6; decide) (by show 0 + 4 ≤ 4; decide) (by show 6 < 2 ^ 31; decide) (by show 4 < 2 ^ 31; decide) N2 g_b1 (g := (mkF m 28 #[.val (.ref a1), .val (.int (4 : Int32)), .val (.ref b1)] [(.int (4 : Int32)), (.int (0 : Int32)), (.ref b1), (.int (0 : Int32)), (.ref a1)])) rfl (by rw [hml]; rfl) rfl (hb hby d27_28) (by decide) (W := 0) (by show 2 * 0 + _ ≤ _; exact Nat.le_of_eq rfl) (by decide)
  refine Gl.pre (fun _ k => st3 _ k) ?_
  have V_a1 := V_a1.keep K3 (ninS (own_ne_a1_b1) nin0)
  have Z3 : n0 ≤ h3.size := Nat.le_trans Z1 K3.1
  have K3k := K1.trans K3 (allS (Or.inr sz_b1) all0)
  have V_b1 : Bal Z h3 b1 .byte [x0, x1, x2, x3] := V3q
  show Gl p.tables e below PP (T3.setTop (mkF m 31 #[.val (.ref a1), .val (.int (4 : Int32)), .val (.ref b1)] []))
  refine Y.aloadN X3 hx (hb hby d27_31) rfl rfl ?_
  rw [hPP]
  refine own_finA (Q := (Qco6_4 Z a1 x0 x1 x2 x3 x4 x5 h0 n0)) X3 hx hlk Bd.returns rfl rfl (hb hby d27_32) ?_ (by decide) (by decide)
  show Qco6_4 Z a1 x0 x1 x2 x3 x4 x5 h0 n0 _ T3.heap _
  rw [e3]
  exact ⟨b1, rfl, N3, sz_b1, K3k, V_b1⟩
theorem ef_mn6_5 (m : MethodId)  : entryFrame m #[(.int (6 : Int32)), (.int (5 : Int32))] 2 = mkF m 0 #[.val (.int (6 : Int32)), .val (.int (5 : Int32))] [] := by first | (simp [entryFrame, mkF, argsToLocals, Value.category]; done) | rfl
def Qmn6_5 (Z : State)  (h0 : Heap) (n0 : Nat) (v : Option Value) (h : Heap) (L : List Loc) : Prop := v = some (.int (5 : Int32)) ∧ Fr n0 L ∧ h = h0
set_option maxRecDepth 65536 in
set_option maxHeartbeats 40000000 in
theorem rmmn6_5 (l : Launch) (Z : State) (a0 : Array Value) (hw : ∀ d ∈ tables_1, d.before a0 Z = true) (ws : List Jvm.Cond)  (h0 : Heap) (n0 : Nat) (Z0 : n0 ≤ h0.size)  :
    MetFree l (⟨"java/lang/Math", "min", "(II)I"⟩ : MethodName) (head1 (Jvm.Cond.code (⟨"java/lang/Math", "min", "(II)I"⟩ : MethodName) jdk_29_method_69_code 2 (some .int) :: ws) ({ frames := 0, cells := 0, slots := 0, locals := 0 } : Room)) (fun a U => a = #[(.int (6 : Int32)), (.int (5 : Int32))] ∧ Z.Warmed39 U.vm ∧ U.heap = h0) (fun _ _ _ _ _ => True) (fun _ U o U' => ∃ v L, o = .returned v ∧ Qmn6_5 Z  h0 n0 v U'.heap L ∧ FrameEnd U o U' L ({ frames := 0, cells := 0, slots := 0, locals := 0 } : Room).cells ({ frames := 0, cells := 0, slots := 0, locals := 0 } : Room).slots) := by
  have W := @own_wd Z a0 hw
  refine MetFree.of_bodySF pn_28 hisR ?_
  intro p e s m args below meth c s₁ Bd hml0 hP hK
  obtain ⟨rfl, hZ, hh⟩ := hP
  have hx := Bd.exec
  have hby := Bd.bytes
  have hlk : meth.locks = false := BodyLoose.notSynchronized Bd
  have hml : c.maxLocals = 2 := hml0
  have hown : s.vm.findClass "java/lang/Math" = some m.cls := findClass_of_methodNamed Bd.named
  have hnm := (name_of_methodNamed Bd.named Bd.method).1
  have X0 : Stand p l e ({ frames := 0, cells := 0, slots := 0, locals := 0 } : Room) s m #[(.int (6 : Int32)), (.int (5 : Int32))] below meth c s₁ [] 0 0 := Stand.of_body Bd
  have e0 : s₁.heap = h0 := by rw [← hh, Bd.state]; rfl
  have N0 := Fr.nil n0
  show Gl p.tables e below _ _
  refine Gl.pre (fun t k => castTop (ef_mn6_5 m ) k) ?_
  refine Gl.gen (fun PP hPP => ?_)
  show Gl p.tables e below PP (s₁.setTop (mkF m 0 #[.val (.int (6 : Int32)), .val (.int (5 : Int32))] []))
  refine Y.iloadN X0 hx (hb hby d28_0) rfl ?_
  refine Y.iloadN X0 hx (hb hby d28_1) rfl ?_
  refine Y.icmpYes X0 hx (pc0 := 2) (pc' := 9) rfl (hb hby d28_2) rfl (tlt (show (5 : Int32) < (6 : Int32) from (by decide))).2.2.1 (by decide) (by decide) ?_
  refine Y.iloadN X0 hx (hb hby d28_9) rfl ?_
  rw [hPP]
  refine own_finI (Q := (Qmn6_5 Z  h0 n0)) X0 hx hlk Bd.returns (hb hby d28_10) ?_ (by decide) (by decide)
  show Qmn6_5 Z  h0 n0 _ s₁.heap _
  rw [e0]
  exact ⟨rfl, N0, rfl⟩
theorem ef_co6_5 (m : MethodId) (a1 : Addr) (x0 : Int32) (x1 : Int32) (x2 : Int32) (x3 : Int32) (x4 : Int32) (x5 : Int32) : entryFrame m #[(.ref a1), (.int (5 : Int32))] 3 = mkF m 0 #[.val (.ref a1), .val (.int (5 : Int32)), .unset] [] := by first | (simp [entryFrame, mkF, argsToLocals, Value.category]; done) | rfl
def Qco6_5 (Z : State) (a1 : Addr) (x0 : Int32) (x1 : Int32) (x2 : Int32) (x3 : Int32) (x4 : Int32) (x5 : Int32) (h0 : Heap) (n0 : Nat) (v : Option Value) (h : Heap) (L : List Loc) : Prop := ∃ b : Addr, v = some (.ref b) ∧ Fr n0 L ∧ h0.size ≤ b ∧ Keep h0 h [] ∧ Bal Z h b .byte [x0, x1, x2, x3, x4]
set_option maxRecDepth 65536 in
set_option maxHeartbeats 40000000 in
theorem rmco6_5 (l : Launch) (Z : State) (a0 : Array Value) (hw : ∀ d ∈ tables_1, d.before a0 Z = true) (ws : List Jvm.Cond) (a1 : Addr) (x0 : Int32) (x1 : Int32) (x2 : Int32) (x3 : Int32) (x4 : Int32) (x5 : Int32) (h0 : Heap) (n0 : Nat) (Z0 : n0 ≤ h0.size) (V_a1 : Bal Z h0 a1 .byte [x0, x1, x2, x3, x4, x5]) (hfx : own_fit [x0, x1, x2, x3, x4, x5]) :
    MetFree l (⟨"java/util/Arrays", "copyOf", "([BI)[B"⟩ : MethodName) (head1 (Jvm.Cond.code (⟨"java/util/Arrays", "copyOf", "([BI)[B"⟩ : MethodName) jdk_65_method_121_code 3 (some (.array .byte)) :: ws) ({ frames := 1, cells := 1, slots := 5, locals := 18 } : Room)) (fun a U => a = #[(.ref a1), (.int (5 : Int32))] ∧ Z.Warmed39 U.vm ∧ U.heap = h0) (fun _ _ _ _ _ => True) (fun _ U o U' => ∃ v L, o = .returned v ∧ Qco6_5 Z a1 x0 x1 x2 x3 x4 x5 h0 n0 v U'.heap L ∧ FrameEnd U o U' L ({ frames := 1, cells := 1, slots := 5, locals := 18 } : Room).cells ({ frames := 1, cells := 1, slots := 5, locals := 18 } : Room).slots) := by
  have W := @own_wd Z a0 hw
  refine MetFree.of_bodySF (plainFor_of_name pn_27) hisR ?_
  intro p e s m args below meth c s₁ Bd hml0 hP hK
  obtain ⟨rfl, hZ, hh⟩ := hP
  have hx := Bd.exec
  have hby := Bd.bytes
  have hlk : meth.locks = false := BodyLoose.notSynchronized Bd
  have hml : c.maxLocals = 3 := hml0
  have hown : s.vm.findClass "java/util/Arrays" = some m.cls := findClass_of_methodNamed Bd.named
  have hnm := (name_of_methodNamed Bd.named Bd.method).1
  have X0 : Stand p l e ({ frames := 1, cells := 1, slots := 5, locals := 18 } : Room) s m #[(.ref a1), (.int (5 : Int32))] below meth c s₁ [] 0 0 := Stand.of_body Bd
  have e0 : s₁.heap = h0 := by rw [← hh, Bd.state]; rfl
  have N0 := Fr.nil n0
  show Gl p.tables e below _ _
  refine Gl.pre (fun t k => castTop (ef_co6_5 m a1 x0 x1 x2 x3 x4 x5) k) ?_
  refine Gl.gen (fun PP hPP => ?_)
  have K0 : Keep h0 h0 [] := Keep.refl h0 _
  show Gl p.tables e below PP (s₁.setTop (mkF m 0 #[.val (.ref a1), .val (.int (5 : Int32)), .unset] []))
  refine Y.iloadN X0 hx (hb hby d27_0) rfl ?_
  refine Y.aloadN X0 hx (hb hby d27_1) rfl rfl ?_
  refine Gl.pre (fun _ k => own_len X0 hx hZ e0 V_a1 (v := (6 : Int32)) rfl (g := (mkF m 2 #[.val (.ref a1), .val (.int (5 : Int32)), .unset] [(.ref a1), (.int (5 : Int32))])) rfl rfl (hb hby d27_2) _ k) ?_
  refine Y.icmpYes X0 hx (pc0 := 3) (pc' := 14) rfl (hb hby d27_3) rfl (feq (show ¬ ((5 : Int32) = (6 : Int32)) from (by decide))).2 (by decide) (by decide) ?_
  refine Y.iloadN X0 hx (hb hby d27_14) rfl ?_
  obtain ⟨T1, h1, k1, X1, e1, E1, A1, st1⟩ := newP X0 hx hZ (W 28 rfl) e0 (g := (mkF m 15 #[.val (.ref a1), .val (.int (5 : Int32)), .unset] [(.int (5 : Int32))])) rfl (hb hby d27_15) rfl (by decide) (cap := 5) (by decide) (by decide) (by decide) (by decide)
  obtain ⟨b1, g1⟩ : ∃ z, z = h0.size := ⟨_, rfl⟩
  rw [← g1] at A1 st1
  refine Gl.pre (fun _ k => st1 _ k) ?_
  have own_ne_a1_b1 : a1 ≠ b1 := by have q := V_a1.lt; rw [g1]; exact Nat.ne_of_lt q
  have own_ne_b1_a1 : b1 ≠ a1 := own_ne_a1_b1.symm
  have g_b1 : n0 ≤ b1 := Nat.le_trans Z0 (Nat.le_of_eq g1.symm)
  have sz_b1 : h0.size ≤ b1 := Nat.le_trans K0.1 (Nat.le_of_eq g1.symm)
  have V_a1 := V_a1.ext E1
  have Z1 : n0 ≤ h1.size := Nat.le_trans Z0 E1.1
  have K1 := K0.ext E1
  have V_b1 : Bal Z h1 b1 .byte [(0 : Int32), (0 : Int32), (0 : Int32), (0 : Int32), (0 : Int32)] := Bal.new (ty := .byte) A1 (n := 5) (by decide) rfl
  refine Y.astoreN X1 hx (hb hby d27_17) rfl rfl (l' := #[.val (.ref a1), .val (.int (5 : Int32)), .val (.ref b1)]) rfl ?_
  refine Y.aloadN X1 hx (hb hby d27_18) rfl rfl ?_
  refine Y.iconst X1 hx (hb hby d27_19) ?_
  refine Y.aloadN X1 hx (hb hby d27_20) rfl rfl ?_
  refine Y.iconst X1 hx (hb hby d27_21) ?_
  refine Y.aloadN X1 hx (hb hby d27_22) rfl rfl ?_
  refine Gl.pre (fun _ k => own_len X1 hx hZ e1 V_a1 (v := (6 : Int32)) rfl (g := (mkF m 23 #[.val (.ref a1), .val (.int (5 : Int32)), .val (.ref b1)] [(.ref a1), (.int (0 : Int32)), (.ref b1), (.int (0 : Int32)), (.ref a1)])) rfl rfl (hb hby d27_23) _ k) ?_
  refine Y.iloadN X1 hx (hb hby d27_24) rfl ?_
  obtain ⟨_, _, ⟨T2, L2, k2, n2⟩, -, X2, ⟨Lc2, hQ2, l2, y2, z2⟩, st2⟩ := Jvm.LawKit.callS X1 hx (y := (⟨"java/lang/Math", "min", "(II)I"⟩ : MethodName)) hown (mvT hZ (W 133 rfl)) (mvT hZ (W 134 rfl)) (mvT hZ (W 135 rfl)) (mvT hZ (W 136 rfl)) (by decide) (backOf (W := 4) (rmmn6_5 l Z a0 hw []  h1 n0 Z1 ) hZ (W 136 rfl) (W 135 rfl) (by decide) (by decide)) (g := (mkF m 25 #[.val (.ref a1), .val (.int (5 : Int32)), .val (.ref b1)] [(.int (5 : Int32)), (.int (6 : Int32)), (.int (0 : Int32)), (.ref b1), (.int (0 : Int32)), (.ref a1)])) rfl (by rw [hml]; rfl) (argsL := [(.int (6 : Int32)), (.int (5 : Int32))]) (rest := [(.int (0 : Int32)), (.ref b1), (.int (0 : Int32)), (.ref a1)]) (lenOf pd_9 rfl) rfl (by show 2 * 0 + _ ≤ _; exact Nat.le_of_eq rfl) (hb hby d27_25) (fun _ _ => ⟨rfl, e1, (by decide : 1 + 0 ≤ _), (by decide : 5 + 0 ≤ _)⟩)
  dsimp only [Pt.U, Pt.locs, Pt.cells, Pt.slots] at X2 l2 y2 z2 st2 hQ2
  subst l2 y2 z2
  obtain ⟨rfl, N2q, e2⟩ := hQ2
  have N2 := Fr.app N0 N2q
  refine Gl.pre (fun _ k => st2 _ k) ?_
  obtain ⟨T3, h3, L3, X3, e3, N3, K3, V3q, st3⟩ := own_cpB X2 hx hZ hown (W 137 rfl) (W 94 rfl) (W 92 rfl) (W 93 rfl) e2 V_a1 V_b1 hfx (own_fit_rep 5) (d := 0) (k := 5) rfl rfl (by show 5 ≤ 6; decide) (by show 0 + 5 ≤ 5; decide) (by show 6 < 2 ^ 31; decide) (by show 5 < 2 ^ 31; decide) N2 g_b1 (g := (mkF m 28 #[.val (.ref a1), .val (.int (5 : Int32)), .val (.ref b1)] [(.int (5 : Int32)), (.int (0 : Int32)), (.ref b1), (.int (0 : Int32)), (.ref a1)])) rfl (by rw [hml]; rfl) rfl (hb hby d27_28) (by decide) (W := 0) (by show 2 * 0 + _ ≤ _; exact Nat.le_of_eq rfl) (by decide)
  refine Gl.pre (fun _ k => st3 _ k) ?_
  have V_a1 := V_a1.keep K3 (ninS (own_ne_a1_b1) nin0)
  have Z3 : n0 ≤ h3.size := Nat.le_trans Z1 K3.1
  have K3k := K1.trans K3 (allS (Or.inr sz_b1) all0)
  have V_b1 : Bal Z h3 b1 .byte [x0, x1, x2, x3, x4] := V3q
  show Gl p.tables e below PP (T3.setTop (mkF m 31 #[.val (.ref a1), .val (.int (5 : Int32)), .val (.ref b1)] []))
  refine Y.aloadN X3 hx (hb hby d27_31) rfl rfl ?_
  rw [hPP]
  refine own_finA (Q := (Qco6_5 Z a1 x0 x1 x2 x3 x4 x5 h0 n0)) X3 hx hlk Bd.returns rfl rfl (hb hby d27_32) ?_ (by decide) (by decide)
  show Qco6_5 Z a1 x0 x1 x2 x3 x4 x5 h0 n0 _ T3.heap _
  rw [e3]
  exact ⟨b1, rfl, N3, sz_b1, K3k, V_b1⟩
theorem ef_mn6_2 (m : MethodId)  : entryFrame m #[(.int (6 : Int32)), (.int (2 : Int32))] 2 = mkF m 0 #[.val (.int (6 : Int32)), .val (.int (2 : Int32))] [] := by first | (simp [entryFrame, mkF, argsToLocals, Value.category]; done) | rfl
def Qmn6_2 (Z : State)  (h0 : Heap) (n0 : Nat) (v : Option Value) (h : Heap) (L : List Loc) : Prop := v = some (.int (2 : Int32)) ∧ Fr n0 L ∧ h = h0
set_option maxRecDepth 65536 in
set_option maxHeartbeats 40000000 in
theorem rmmn6_2 (l : Launch) (Z : State) (a0 : Array Value) (hw : ∀ d ∈ tables_1, d.before a0 Z = true) (ws : List Jvm.Cond)  (h0 : Heap) (n0 : Nat) (Z0 : n0 ≤ h0.size)  :
    MetFree l (⟨"java/lang/Math", "min", "(II)I"⟩ : MethodName) (head1 (Jvm.Cond.code (⟨"java/lang/Math", "min", "(II)I"⟩ : MethodName) jdk_29_method_69_code 2 (some .int) :: ws) ({ frames := 0, cells := 0, slots := 0, locals := 0 } : Room)) (fun a U => a = #[(.int (6 : Int32)), (.int (2 : Int32))] ∧ Z.Warmed39 U.vm ∧ U.heap = h0) (fun _ _ _ _ _ => True) (fun _ U o U' => ∃ v L, o = .returned v ∧ Qmn6_2 Z  h0 n0 v U'.heap L ∧ FrameEnd U o U' L ({ frames := 0, cells := 0, slots := 0, locals := 0 } : Room).cells ({ frames := 0, cells := 0, slots := 0, locals := 0 } : Room).slots) := by
  have W := @own_wd Z a0 hw
  refine MetFree.of_bodySF pn_28 hisR ?_
  intro p e s m args below meth c s₁ Bd hml0 hP hK
  obtain ⟨rfl, hZ, hh⟩ := hP
  have hx := Bd.exec
  have hby := Bd.bytes
  have hlk : meth.locks = false := BodyLoose.notSynchronized Bd
  have hml : c.maxLocals = 2 := hml0
  have hown : s.vm.findClass "java/lang/Math" = some m.cls := findClass_of_methodNamed Bd.named
  have hnm := (name_of_methodNamed Bd.named Bd.method).1
  have X0 : Stand p l e ({ frames := 0, cells := 0, slots := 0, locals := 0 } : Room) s m #[(.int (6 : Int32)), (.int (2 : Int32))] below meth c s₁ [] 0 0 := Stand.of_body Bd
  have e0 : s₁.heap = h0 := by rw [← hh, Bd.state]; rfl
  have N0 := Fr.nil n0
  show Gl p.tables e below _ _
  refine Gl.pre (fun t k => castTop (ef_mn6_2 m ) k) ?_
  refine Gl.gen (fun PP hPP => ?_)
  show Gl p.tables e below PP (s₁.setTop (mkF m 0 #[.val (.int (6 : Int32)), .val (.int (2 : Int32))] []))
  refine Y.iloadN X0 hx (hb hby d28_0) rfl ?_
  refine Y.iloadN X0 hx (hb hby d28_1) rfl ?_
  refine Y.icmpYes X0 hx (pc0 := 2) (pc' := 9) rfl (hb hby d28_2) rfl (tlt (show (2 : Int32) < (6 : Int32) from (by decide))).2.2.1 (by decide) (by decide) ?_
  refine Y.iloadN X0 hx (hb hby d28_9) rfl ?_
  rw [hPP]
  refine own_finI (Q := (Qmn6_2 Z  h0 n0)) X0 hx hlk Bd.returns (hb hby d28_10) ?_ (by decide) (by decide)
  show Qmn6_2 Z  h0 n0 _ s₁.heap _
  rw [e0]
  exact ⟨rfl, N0, rfl⟩
theorem ef_co6_2 (m : MethodId) (a1 : Addr) (x0 : Int32) (x1 : Int32) (x2 : Int32) (x3 : Int32) (x4 : Int32) (x5 : Int32) : entryFrame m #[(.ref a1), (.int (2 : Int32))] 3 = mkF m 0 #[.val (.ref a1), .val (.int (2 : Int32)), .unset] [] := by first | (simp [entryFrame, mkF, argsToLocals, Value.category]; done) | rfl
def Qco6_2 (Z : State) (a1 : Addr) (x0 : Int32) (x1 : Int32) (x2 : Int32) (x3 : Int32) (x4 : Int32) (x5 : Int32) (h0 : Heap) (n0 : Nat) (v : Option Value) (h : Heap) (L : List Loc) : Prop := ∃ b : Addr, v = some (.ref b) ∧ Fr n0 L ∧ h0.size ≤ b ∧ Keep h0 h [] ∧ Bal Z h b .byte [x0, x1]
set_option maxRecDepth 65536 in
set_option maxHeartbeats 40000000 in
theorem rmco6_2 (l : Launch) (Z : State) (a0 : Array Value) (hw : ∀ d ∈ tables_1, d.before a0 Z = true) (ws : List Jvm.Cond) (a1 : Addr) (x0 : Int32) (x1 : Int32) (x2 : Int32) (x3 : Int32) (x4 : Int32) (x5 : Int32) (h0 : Heap) (n0 : Nat) (Z0 : n0 ≤ h0.size) (V_a1 : Bal Z h0 a1 .byte [x0, x1, x2, x3, x4, x5]) (hfx : own_fit [x0, x1, x2, x3, x4, x5]) :
    MetFree l (⟨"java/util/Arrays", "copyOf", "([BI)[B"⟩ : MethodName) (head1 (Jvm.Cond.code (⟨"java/util/Arrays", "copyOf", "([BI)[B"⟩ : MethodName) jdk_65_method_121_code 3 (some (.array .byte)) :: ws) ({ frames := 1, cells := 1, slots := 2, locals := 18 } : Room)) (fun a U => a = #[(.ref a1), (.int (2 : Int32))] ∧ Z.Warmed39 U.vm ∧ U.heap = h0) (fun _ _ _ _ _ => True) (fun _ U o U' => ∃ v L, o = .returned v ∧ Qco6_2 Z a1 x0 x1 x2 x3 x4 x5 h0 n0 v U'.heap L ∧ FrameEnd U o U' L ({ frames := 1, cells := 1, slots := 2, locals := 18 } : Room).cells ({ frames := 1, cells := 1, slots := 2, locals := 18 } : Room).slots) := by
  have W := @own_wd Z a0 hw
  refine MetFree.of_bodySF (plainFor_of_name pn_27) hisR ?_
  intro p e s m args below meth c s₁ Bd hml0 hP hK
  obtain ⟨rfl, hZ, hh⟩ := hP
  have hx := Bd.exec
  have hby := Bd.bytes
  have hlk : meth.locks = false := BodyLoose.notSynchronized Bd
  have hml : c.maxLocals = 3 := hml0
  have hown : s.vm.findClass "java/util/Arrays" = some m.cls := findClass_of_methodNamed Bd.named
  have hnm := (name_of_methodNamed Bd.named Bd.method).1
  have X0 : Stand p l e ({ frames := 1, cells := 1, slots := 2, locals := 18 } : Room) s m #[(.ref a1), (.int (2 : Int32))] below meth c s₁ [] 0 0 := Stand.of_body Bd
  have e0 : s₁.heap = h0 := by rw [← hh, Bd.state]; rfl
  have N0 := Fr.nil n0
  show Gl p.tables e below _ _
  refine Gl.pre (fun t k => castTop (ef_co6_2 m a1 x0 x1 x2 x3 x4 x5) k) ?_
  refine Gl.gen (fun PP hPP => ?_)
  have K0 : Keep h0 h0 [] := Keep.refl h0 _
  show Gl p.tables e below PP (s₁.setTop (mkF m 0 #[.val (.ref a1), .val (.int (2 : Int32)), .unset] []))
  refine Y.iloadN X0 hx (hb hby d27_0) rfl ?_
  refine Y.aloadN X0 hx (hb hby d27_1) rfl rfl ?_
  refine Gl.pre (fun _ k => own_len X0 hx hZ e0 V_a1 (v := (6 : Int32)) rfl (g := (mkF m 2 #[.val (.ref a1), .val (.int (2 : Int32)), .unset] [(.ref a1), (.int (2 : Int32))])) rfl rfl (hb hby d27_2) _ k) ?_
  refine Y.icmpYes X0 hx (pc0 := 3) (pc' := 14) rfl (hb hby d27_3) rfl (feq (show ¬ ((2 : Int32) = (6 : Int32)) from (by decide))).2 (by decide) (by decide) ?_
  refine Y.iloadN X0 hx (hb hby d27_14) rfl ?_
  obtain ⟨T1, h1, k1, X1, e1, E1, A1, st1⟩ := newP X0 hx hZ (W 28 rfl) e0 (g := (mkF m 15 #[.val (.ref a1), .val (.int (2 : Int32)), .unset] [(.int (2 : Int32))])) rfl (hb hby d27_15) rfl (by decide) (cap := 2) (by decide) (by decide) (by decide) (by decide)
  obtain ⟨b1, g1⟩ : ∃ z, z = h0.size := ⟨_, rfl⟩
  rw [← g1] at A1 st1
  refine Gl.pre (fun _ k => st1 _ k) ?_
  have own_ne_a1_b1 : a1 ≠ b1 := by have q := V_a1.lt; rw [g1]; exact Nat.ne_of_lt q
  have own_ne_b1_a1 : b1 ≠ a1 := own_ne_a1_b1.symm
  have g_b1 : n0 ≤ b1 := Nat.le_trans Z0 (Nat.le_of_eq g1.symm)
  have sz_b1 : h0.size ≤ b1 := Nat.le_trans K0.1 (Nat.le_of_eq g1.symm)
  have V_a1 := V_a1.ext E1
  have Z1 : n0 ≤ h1.size := Nat.le_trans Z0 E1.1
  have K1 := K0.ext E1
  have V_b1 : Bal Z h1 b1 .byte [(0 : Int32), (0 : Int32)] := Bal.new (ty := .byte) A1 (n := 2) (by decide) rfl
  refine Y.astoreN X1 hx (hb hby d27_17) rfl rfl (l' := #[.val (.ref a1), .val (.int (2 : Int32)), .val (.ref b1)]) rfl ?_
  refine Y.aloadN X1 hx (hb hby d27_18) rfl rfl ?_
  refine Y.iconst X1 hx (hb hby d27_19) ?_
  refine Y.aloadN X1 hx (hb hby d27_20) rfl rfl ?_
  refine Y.iconst X1 hx (hb hby d27_21) ?_
  refine Y.aloadN X1 hx (hb hby d27_22) rfl rfl ?_
  refine Gl.pre (fun _ k => own_len X1 hx hZ e1 V_a1 (v := (6 : Int32)) rfl (g := (mkF m 23 #[.val (.ref a1), .val (.int (2 : Int32)), .val (.ref b1)] [(.ref a1), (.int (0 : Int32)), (.ref b1), (.int (0 : Int32)), (.ref a1)])) rfl rfl (hb hby d27_23) _ k) ?_
  refine Y.iloadN X1 hx (hb hby d27_24) rfl ?_
  obtain ⟨_, _, ⟨T2, L2, k2, n2⟩, -, X2, ⟨Lc2, hQ2, l2, y2, z2⟩, st2⟩ := Jvm.LawKit.callS X1 hx (y := (⟨"java/lang/Math", "min", "(II)I"⟩ : MethodName)) hown (mvT hZ (W 133 rfl)) (mvT hZ (W 134 rfl)) (mvT hZ (W 135 rfl)) (mvT hZ (W 136 rfl)) (by decide) (backOf (W := 4) (rmmn6_2 l Z a0 hw []  h1 n0 Z1 ) hZ (W 136 rfl) (W 135 rfl) (by decide) (by decide)) (g := (mkF m 25 #[.val (.ref a1), .val (.int (2 : Int32)), .val (.ref b1)] [(.int (2 : Int32)), (.int (6 : Int32)), (.int (0 : Int32)), (.ref b1), (.int (0 : Int32)), (.ref a1)])) rfl (by rw [hml]; rfl) (argsL := [(.int (6 : Int32)), (.int (2 : Int32))]) (rest := [(.int (0 : Int32)), (.ref b1), (.int (0 : Int32)), (.ref a1)]) (lenOf pd_9 rfl) rfl (by show 2 * 0 + _ ≤ _; exact Nat.le_of_eq rfl) (hb hby d27_25) (fun _ _ => ⟨rfl, e1, (by decide : 1 + 0 ≤ _), (by decide : 2 + 0 ≤ _)⟩)
  dsimp only [Pt.U, Pt.locs, Pt.cells, Pt.slots] at X2 l2 y2 z2 st2 hQ2
  subst l2 y2 z2
  obtain ⟨rfl, N2q, e2⟩ := hQ2
  have N2 := Fr.app N0 N2q
  refine Gl.pre (fun _ k => st2 _ k) ?_
  obtain ⟨T3, h3, L3, X3, e3, N3, K3, V3q, st3⟩ := own_cpB X2 hx hZ hown (W 137 rfl) (W 94 rfl) (W 92 rfl) (W 93 rfl) e2 V_a1 V_b1 hfx (own_fit_rep 2) (d := 0) (k := 2) rfl rfl (by show 2 ≤ 6; decide) (by show 0 + 2 ≤ 2; decide) (by show 6 < 2 ^ 31; decide) (by show 2 < 2 ^ 31; decide) N2 g_b1 (g := (mkF m 28 #[.val (.ref a1), .val (.int (2 : Int32)), .val (.ref b1)] [(.int (2 : Int32)), (.int (0 : Int32)), (.ref b1), (.int (0 : Int32)), (.ref a1)])) rfl (by rw [hml]; rfl) rfl (hb hby d27_28) (by decide) (W := 0) (by show 2 * 0 + _ ≤ _; exact Nat.le_of_eq rfl) (by decide)
  refine Gl.pre (fun _ k => st3 _ k) ?_
  have V_a1 := V_a1.keep K3 (ninS (own_ne_a1_b1) nin0)
  have Z3 : n0 ≤ h3.size := Nat.le_trans Z1 K3.1
  have K3k := K1.trans K3 (allS (Or.inr sz_b1) all0)
  have V_b1 : Bal Z h3 b1 .byte [x0, x1] := V3q
  show Gl p.tables e below PP (T3.setTop (mkF m 31 #[.val (.ref a1), .val (.int (2 : Int32)), .val (.ref b1)] []))
  refine Y.aloadN X3 hx (hb hby d27_31) rfl rfl ?_
  rw [hPP]
  refine own_finA (Q := (Qco6_2 Z a1 x0 x1 x2 x3 x4 x5 h0 n0)) X3 hx hlk Bd.returns rfl rfl (hb hby d27_32) ?_ (by decide) (by decide)
  show Qco6_2 Z a1 x0 x1 x2 x3 x4 x5 h0 n0 _ T3.heap _
  rw [e3]
  exact ⟨b1, rfl, N3, sz_b1, K3k, V_b1⟩
theorem d26_0 : decode jdk_89_method_16_code 0 = .ok (.iload_n 0, 1) := by decide +kernel
theorem d26_1 : decode jdk_89_method_16_code 1 = .ok (.ldc 75, 2) := by decide +kernel
theorem d26_3 : decode jdk_89_method_16_code 3 = .ok (.if_icmp .lt 13, 3) := by decide +kernel
theorem d26_6 : decode jdk_89_method_16_code 6 = .ok (.iload_n 0, 1) := by decide +kernel
theorem d26_7 : decode jdk_89_method_16_code 7 = .ok (.ldc 77, 2) := by decide +kernel
theorem d26_9 : decode jdk_89_method_16_code 9 = .ok (.if_icmp .ge 7, 3) := by decide +kernel
theorem d26_16 : decode jdk_89_method_16_code 16 = .ok (.iconst 0, 1) := by decide +kernel
theorem d26_17 : decode jdk_89_method_16_code 17 = .ok (.ireturn, 1) := by decide +kernel
theorem pn_26 : plainName "java/lang/Character" = true := by first | (simp [plainName, overriddenIn]; done) | decide +kernel
theorem ef_iss (m : MethodId) (pc : Int32) : entryFrame m #[(.int pc)] 1 = mkF m 0 #[.val (.int pc)] [] := by first | (simp [entryFrame, mkF, argsToLocals, Value.category]; done) | rfl
def Qiss (Z : State) (pc : Int32) (h0 : Heap) (n0 : Nat) (v : Option Value) (h : Heap) (L : List Loc) : Prop := v = some (.int (0 : Int32)) ∧ Fr n0 L ∧ h = h0
set_option maxRecDepth 65536 in
set_option maxHeartbeats 40000000 in
theorem rmiss (l : Launch) (Z : State) (a0 : Array Value) (hw : ∀ d ∈ tables_1, d.before a0 Z = true) (ws : List Jvm.Cond) (pc : Int32) (h0 : Heap) (n0 : Nat) (Z0 : n0 ≤ h0.size) (hns : pc < (55296 : Int32) ∨ ¬ (pc < (57344 : Int32))) :
    MetFree l (⟨"java/lang/Character", "isSurrogate", "(C)Z"⟩ : MethodName) (head1 (Jvm.Cond.code (⟨"java/lang/Character", "isSurrogate", "(C)Z"⟩ : MethodName) jdk_89_method_16_code 1 (some .boolean) :: ws) ({ frames := 0, cells := 0, slots := 0, locals := 0 } : Room)) (fun a U => a = #[(.int pc)] ∧ Z.Warmed39 U.vm ∧ U.heap = h0) (fun _ _ _ _ _ => True) (fun _ U o U' => ∃ v L, o = .returned v ∧ Qiss Z pc h0 n0 v U'.heap L ∧ FrameEnd U o U' L ({ frames := 0, cells := 0, slots := 0, locals := 0 } : Room).cells ({ frames := 0, cells := 0, slots := 0, locals := 0 } : Room).slots) := by
  have W := @own_wd Z a0 hw
  refine MetFree.of_bodySF (plainFor_of_name pn_26) hisR ?_
  intro p e s m args below meth c s₁ Bd hml0 hP hK
  obtain ⟨rfl, hZ, hh⟩ := hP
  have hx := Bd.exec
  have hby := Bd.bytes
  have hlk : meth.locks = false := BodyLoose.notSynchronized Bd
  have hml : c.maxLocals = 1 := hml0
  have hown : s.vm.findClass "java/lang/Character" = some m.cls := findClass_of_methodNamed Bd.named
  have hnm := (name_of_methodNamed Bd.named Bd.method).1
  have X0 : Stand p l e ({ frames := 0, cells := 0, slots := 0, locals := 0 } : Room) s m #[(.int pc)] below meth c s₁ [] 0 0 := Stand.of_body Bd
  have e0 : s₁.heap = h0 := by rw [← hh, Bd.state]; rfl
  have N0 := Fr.nil n0
  show Gl p.tables e below _ _
  refine Gl.pre (fun t k => castTop (ef_iss m pc) k) ?_
  refine Gl.gen (fun PP hPP => ?_)
  show Gl p.tables e below PP (s₁.setTop (mkF m 0 #[.val (.int pc)] []))
  refine Y.iloadN X0 hx (hb hby d26_0) rfl ?_
  refine Gl.pre (fun _ k => X0.ldcInt hx hown (mvT hZ (W 126 rfl)) (g := (mkF m 1 #[.val (.int pc)] [(.int pc)])) rfl (hb hby d26_1) _ k) ?_
  by_cases hc1 : pc < (55296 : Int32)
  refine Y.icmpYes X0 hx (pc0 := 3) (pc' := 16) rfl (hb hby d26_3) rfl (tlt hc1).1 (by decide) (by decide) ?_
  refine Y.iconst X0 hx (hb hby d26_16) ?_
  rw [hPP]
  refine own_finN (Q := (Qiss Z pc h0 n0)) X0 hx hlk Bd.returns (t := .boolean) (z' := (0 : Int32)) (by simp) (by decide) (hb hby d26_17) ?_ (by decide) (by decide)
  show Qiss Z pc h0 n0 _ s₁.heap _
  rw [e0]
  exact ⟨rfl, N0, rfl⟩
  refine Y.icmpNo X0 hx (hb hby d26_3) rfl (flt hc1).1 ?_
  refine Y.iloadN X0 hx (hb hby d26_6) rfl ?_
  refine Gl.pre (fun _ k => X0.ldcInt hx hown (mvT hZ (W 128 rfl)) (g := (mkF m 7 #[.val (.int pc)] [(.int pc)])) rfl (hb hby d26_7) _ k) ?_
  refine Y.icmpYes X0 hx (pc0 := 9) (pc' := 16) rfl (hb hby d26_9) rfl (flt (show ¬ (pc < (57344 : Int32)) from (hns.resolve_left hc1))).2.1 (by decide) (by decide) ?_
  refine Y.iconst X0 hx (hb hby d26_16) ?_
  rw [hPP]
  refine own_finN (Q := (Qiss Z pc h0 n0)) X0 hx hlk Bd.returns (t := .boolean) (z' := (0 : Int32)) (by simp) (by decide) (hb hby d26_17) ?_ (by decide) (by decide)
  show Qiss Z pc h0 n0 _ s₁.heap _
  rw [e0]
  exact ⟨rfl, N0, rfl⟩
theorem d25_0 : decode jdk_42_method_47_code 0 = .ok (.iconst 0, 1) := by decide +kernel
theorem d25_1 : decode jdk_42_method_47_code 1 = .ok (.istore_n 2, 1) := by decide +kernel
theorem d25_2 : decode jdk_42_method_47_code 2 = .ok (.iconst 0, 1) := by decide +kernel
theorem d25_3 : decode jdk_42_method_47_code 3 = .ok (.istore_n 3, 1) := by decide +kernel
theorem d25_4 : decode jdk_42_method_47_code 4 = .ok (.aload_n 0, 1) := by decide +kernel
theorem d25_5 : decode jdk_42_method_47_code 5 = .ok (.arraylength, 1) := by decide +kernel
theorem d25_6 : decode jdk_42_method_47_code 6 = .ok (.iconst 1, 1) := by decide +kernel
theorem d25_7 : decode jdk_42_method_47_code 7 = .ok (.ishr, 1) := by decide +kernel
theorem d25_8 : decode jdk_42_method_47_code 8 = .ok (.istore 4, 2) := by decide +kernel
theorem d25_10 : decode jdk_42_method_47_code 10 = .ok (.iload 4, 2) := by decide +kernel
theorem d25_12 : decode jdk_42_method_47_code 12 = .ok (.iconst 3, 1) := by decide +kernel
theorem d25_13 : decode jdk_42_method_47_code 13 = .ok (.imul, 1) := by decide +kernel
theorem d25_14 : decode jdk_42_method_47_code 14 = .ok (.newarray .byte, 2) := by decide +kernel
theorem d25_16 : decode jdk_42_method_47_code 16 = .ok (.astore 5, 2) := by decide +kernel
theorem d25_18 : decode jdk_42_method_47_code 18 = .ok (.iload_n 3, 1) := by decide +kernel
theorem d25_19 : decode jdk_42_method_47_code 19 = .ok (.iload 4, 2) := by decide +kernel
theorem d25_21 : decode jdk_42_method_47_code 21 = .ok (.if_icmp .ge 37, 3) := by decide +kernel
theorem d25_24 : decode jdk_42_method_47_code 24 = .ok (.aload_n 0, 1) := by decide +kernel
theorem d25_25 : decode jdk_42_method_47_code 25 = .ok (.iload_n 3, 1) := by decide +kernel
theorem d25_26 : decode jdk_42_method_47_code 26 = .ok (.invokestatic 360, 3) := by decide +kernel
theorem d25_29 : decode jdk_42_method_47_code 29 = .ok (.istore 6, 2) := by decide +kernel
theorem d25_31 : decode jdk_42_method_47_code 31 = .ok (.iload 6, 2) := by decide +kernel
theorem d25_33 : decode jdk_42_method_47_code 33 = .ok (.sipush 128, 3) := by decide +kernel
theorem d25_36 : decode jdk_42_method_47_code 36 = .ok (.if_icmp .lt 6, 3) := by decide +kernel
theorem d25_39 : decode jdk_42_method_47_code 39 = .ok (.goto 19, 3) := by decide +kernel
theorem d25_42 : decode jdk_42_method_47_code 42 = .ok (.aload 5, 2) := by decide +kernel
theorem d25_44 : decode jdk_42_method_47_code 44 = .ok (.iload_n 2, 1) := by decide +kernel
theorem d25_45 : decode jdk_42_method_47_code 45 = .ok (.iinc 2 1, 3) := by decide +kernel
theorem d25_48 : decode jdk_42_method_47_code 48 = .ok (.iload 6, 2) := by decide +kernel
theorem d25_50 : decode jdk_42_method_47_code 50 = .ok (.i2b, 1) := by decide +kernel
theorem d25_51 : decode jdk_42_method_47_code 51 = .ok (.bastore, 1) := by decide +kernel
theorem d25_52 : decode jdk_42_method_47_code 52 = .ok (.iinc 3 1, 3) := by decide +kernel
theorem d25_55 : decode jdk_42_method_47_code 55 = .ok (.goto (-37), 3) := by decide +kernel
theorem d25_58 : decode jdk_42_method_47_code 58 = .ok (.iload_n 3, 1) := by decide +kernel
theorem d25_59 : decode jdk_42_method_47_code 59 = .ok (.iload 4, 2) := by decide +kernel
theorem d25_61 : decode jdk_42_method_47_code 61 = .ok (.if_icmp .ge 294, 3) := by decide +kernel
theorem d25_64 : decode jdk_42_method_47_code 64 = .ok (.aload_n 0, 1) := by decide +kernel
theorem d25_65 : decode jdk_42_method_47_code 65 = .ok (.iload_n 3, 1) := by decide +kernel
theorem d25_66 : decode jdk_42_method_47_code 66 = .ok (.iinc 3 1, 3) := by decide +kernel
theorem d25_69 : decode jdk_42_method_47_code 69 = .ok (.invokestatic 360, 3) := by decide +kernel
theorem d25_72 : decode jdk_42_method_47_code 72 = .ok (.istore 6, 2) := by decide +kernel
theorem d25_74 : decode jdk_42_method_47_code 74 = .ok (.iload 6, 2) := by decide +kernel
theorem d25_76 : decode jdk_42_method_47_code 76 = .ok (.sipush 128, 3) := by decide +kernel
theorem d25_79 : decode jdk_42_method_47_code 79 = .ok (.if_icmp .ge 16, 3) := by decide +kernel
theorem d25_82 : decode jdk_42_method_47_code 82 = .ok (.aload 5, 2) := by decide +kernel
theorem d25_84 : decode jdk_42_method_47_code 84 = .ok (.iload_n 2, 1) := by decide +kernel
theorem d25_85 : decode jdk_42_method_47_code 85 = .ok (.iinc 2 1, 3) := by decide +kernel
theorem d25_88 : decode jdk_42_method_47_code 88 = .ok (.iload 6, 2) := by decide +kernel
theorem d25_90 : decode jdk_42_method_47_code 90 = .ok (.i2b, 1) := by decide +kernel
theorem d25_91 : decode jdk_42_method_47_code 91 = .ok (.bastore, 1) := by decide +kernel
theorem d25_92 : decode jdk_42_method_47_code 92 = .ok (.goto 260, 3) := by decide +kernel
theorem d25_95 : decode jdk_42_method_47_code 95 = .ok (.iload 6, 2) := by decide +kernel
theorem d25_97 : decode jdk_42_method_47_code 97 = .ok (.sipush 2048, 3) := by decide +kernel
theorem d25_100 : decode jdk_42_method_47_code 100 = .ok (.if_icmp .ge 40, 3) := by decide +kernel
theorem d25_103 : decode jdk_42_method_47_code 103 = .ok (.aload 5, 2) := by decide +kernel
theorem d25_105 : decode jdk_42_method_47_code 105 = .ok (.iload_n 2, 1) := by decide +kernel
theorem d25_106 : decode jdk_42_method_47_code 106 = .ok (.iinc 2 1, 3) := by decide +kernel
theorem d25_109 : decode jdk_42_method_47_code 109 = .ok (.sipush 192, 3) := by decide +kernel
theorem d25_112 : decode jdk_42_method_47_code 112 = .ok (.iload 6, 2) := by decide +kernel
theorem d25_114 : decode jdk_42_method_47_code 114 = .ok (.bipush 6, 2) := by decide +kernel
theorem d25_116 : decode jdk_42_method_47_code 116 = .ok (.ishr, 1) := by decide +kernel
theorem d25_117 : decode jdk_42_method_47_code 117 = .ok (.ior, 1) := by decide +kernel
theorem d25_118 : decode jdk_42_method_47_code 118 = .ok (.i2b, 1) := by decide +kernel
theorem d25_119 : decode jdk_42_method_47_code 119 = .ok (.bastore, 1) := by decide +kernel
theorem d25_120 : decode jdk_42_method_47_code 120 = .ok (.aload 5, 2) := by decide +kernel
theorem d25_122 : decode jdk_42_method_47_code 122 = .ok (.iload_n 2, 1) := by decide +kernel
theorem d25_123 : decode jdk_42_method_47_code 123 = .ok (.iinc 2 1, 3) := by decide +kernel
theorem d25_126 : decode jdk_42_method_47_code 126 = .ok (.sipush 128, 3) := by decide +kernel
theorem d25_129 : decode jdk_42_method_47_code 129 = .ok (.iload 6, 2) := by decide +kernel
theorem d25_131 : decode jdk_42_method_47_code 131 = .ok (.bipush 63, 2) := by decide +kernel
theorem d25_133 : decode jdk_42_method_47_code 133 = .ok (.iand, 1) := by decide +kernel
theorem d25_134 : decode jdk_42_method_47_code 134 = .ok (.ior, 1) := by decide +kernel
theorem d25_135 : decode jdk_42_method_47_code 135 = .ok (.i2b, 1) := by decide +kernel
theorem d25_136 : decode jdk_42_method_47_code 136 = .ok (.bastore, 1) := by decide +kernel
theorem d25_137 : decode jdk_42_method_47_code 137 = .ok (.goto 215, 3) := by decide +kernel
theorem d25_140 : decode jdk_42_method_47_code 140 = .ok (.iload 6, 2) := by decide +kernel
theorem d25_142 : decode jdk_42_method_47_code 142 = .ok (.invokestatic 404, 3) := by decide +kernel
theorem d25_145 : decode jdk_42_method_47_code 145 = .ok (.ifCond .eq 153, 3) := by decide +kernel
theorem d25_298 : decode jdk_42_method_47_code 298 = .ok (.aload 5, 2) := by decide +kernel
theorem d25_300 : decode jdk_42_method_47_code 300 = .ok (.iload_n 2, 1) := by decide +kernel
theorem d25_301 : decode jdk_42_method_47_code 301 = .ok (.iinc 2 1, 3) := by decide +kernel
theorem d25_304 : decode jdk_42_method_47_code 304 = .ok (.sipush 224, 3) := by decide +kernel
theorem d25_307 : decode jdk_42_method_47_code 307 = .ok (.iload 6, 2) := by decide +kernel
theorem d25_309 : decode jdk_42_method_47_code 309 = .ok (.bipush 12, 2) := by decide +kernel
theorem d25_311 : decode jdk_42_method_47_code 311 = .ok (.ishr, 1) := by decide +kernel
theorem d25_312 : decode jdk_42_method_47_code 312 = .ok (.ior, 1) := by decide +kernel
theorem d25_313 : decode jdk_42_method_47_code 313 = .ok (.i2b, 1) := by decide +kernel
theorem d25_314 : decode jdk_42_method_47_code 314 = .ok (.bastore, 1) := by decide +kernel
theorem d25_315 : decode jdk_42_method_47_code 315 = .ok (.aload 5, 2) := by decide +kernel
theorem d25_317 : decode jdk_42_method_47_code 317 = .ok (.iload_n 2, 1) := by decide +kernel
theorem d25_318 : decode jdk_42_method_47_code 318 = .ok (.iinc 2 1, 3) := by decide +kernel
theorem d25_321 : decode jdk_42_method_47_code 321 = .ok (.sipush 128, 3) := by decide +kernel
theorem d25_324 : decode jdk_42_method_47_code 324 = .ok (.iload 6, 2) := by decide +kernel
theorem d25_326 : decode jdk_42_method_47_code 326 = .ok (.bipush 6, 2) := by decide +kernel
theorem d25_328 : decode jdk_42_method_47_code 328 = .ok (.ishr, 1) := by decide +kernel
theorem d25_329 : decode jdk_42_method_47_code 329 = .ok (.bipush 63, 2) := by decide +kernel
theorem d25_331 : decode jdk_42_method_47_code 331 = .ok (.iand, 1) := by decide +kernel
theorem d25_332 : decode jdk_42_method_47_code 332 = .ok (.ior, 1) := by decide +kernel
theorem d25_333 : decode jdk_42_method_47_code 333 = .ok (.i2b, 1) := by decide +kernel
theorem d25_334 : decode jdk_42_method_47_code 334 = .ok (.bastore, 1) := by decide +kernel
theorem d25_335 : decode jdk_42_method_47_code 335 = .ok (.aload 5, 2) := by decide +kernel
theorem d25_337 : decode jdk_42_method_47_code 337 = .ok (.iload_n 2, 1) := by decide +kernel
theorem d25_338 : decode jdk_42_method_47_code 338 = .ok (.iinc 2 1, 3) := by decide +kernel
theorem d25_341 : decode jdk_42_method_47_code 341 = .ok (.sipush 128, 3) := by decide +kernel
theorem d25_344 : decode jdk_42_method_47_code 344 = .ok (.iload 6, 2) := by decide +kernel
theorem d25_346 : decode jdk_42_method_47_code 346 = .ok (.bipush 63, 2) := by decide +kernel
theorem d25_348 : decode jdk_42_method_47_code 348 = .ok (.iand, 1) := by decide +kernel
theorem d25_349 : decode jdk_42_method_47_code 349 = .ok (.ior, 1) := by decide +kernel
theorem d25_350 : decode jdk_42_method_47_code 350 = .ok (.i2b, 1) := by decide +kernel
theorem d25_351 : decode jdk_42_method_47_code 351 = .ok (.bastore, 1) := by decide +kernel
theorem d25_352 : decode jdk_42_method_47_code 352 = .ok (.goto (-294), 3) := by decide +kernel
theorem d25_355 : decode jdk_42_method_47_code 355 = .ok (.iload_n 2, 1) := by decide +kernel
theorem d25_356 : decode jdk_42_method_47_code 356 = .ok (.aload 5, 2) := by decide +kernel
theorem d25_358 : decode jdk_42_method_47_code 358 = .ok (.arraylength, 1) := by decide +kernel
theorem d25_359 : decode jdk_42_method_47_code 359 = .ok (.if_icmp .ne 6, 3) := by decide +kernel
theorem d25_362 : decode jdk_42_method_47_code 362 = .ok (.aload 5, 2) := by decide +kernel
theorem d25_364 : decode jdk_42_method_47_code 364 = .ok (.areturn, 1) := by decide +kernel
theorem d25_365 : decode jdk_42_method_47_code 365 = .ok (.aload 5, 2) := by decide +kernel
theorem d25_367 : decode jdk_42_method_47_code 367 = .ok (.iload_n 2, 1) := by decide +kernel
theorem d25_368 : decode jdk_42_method_47_code 368 = .ok (.invokestatic 102, 3) := by decide +kernel
theorem d25_371 : decode jdk_42_method_47_code 371 = .ok (.areturn, 1) := by decide +kernel
theorem pn_25 : plainName "java/lang/String" = true := by first | (simp [plainName, overriddenIn]; done) | decide +kernel
theorem ef_ue1 (m : MethodId) (a1 : Addr) (c0 : Int32) : entryFrame m #[(.ref a1), (.int (1 : Int32))] 9 = mkF m 0 #[.val (.ref a1), .val (.int (1 : Int32)), .unset, .unset, .unset, .unset, .unset, .unset, .unset] [] := by first | (simp [entryFrame, mkF, argsToLocals, Value.category]; done) | rfl
def Que1 (Z : State) (a1 : Addr) (c0 : Int32) (h0 : Heap) (n0 : Nat) (v : Option Value) (h : Heap) (L : List Loc) : Prop := ∃ b : Addr, v = some (.ref b) ∧ Fr n0 L ∧ h0.size ≤ b ∧ Keep h0 h [] ∧ Bal Z h b .byte (own_u [c0])
set_option maxRecDepth 65536 in
set_option maxHeartbeats 40000000 in
theorem rmue1 (l : Launch) (Z : State) (a0 : Array Value) (hw : ∀ d ∈ tables_1, d.before a0 Z = true) (ws : List Jvm.Cond) (a1 : Addr) (c0 : Int32) (h0 : Heap) (n0 : Nat) (Z0 : n0 ≤ h0.size) (V_a1 : Bal Z h0 a1 .byte [(nar .byte ((c0 >>> ((0 : Int32) &&& 31)).toInt8.toInt32)), (nar .byte ((c0 >>> ((8 : Int32) &&& 31)).toInt8.toInt32))]) (hr0 : 0 ≤ c0.toInt ∧ c0.toInt < 65536) (hc0 : (255 : Int32) < c0) (hn0 : c0 < (55296 : Int32) ∨ ¬ (c0 < (57344 : Int32))) (SAD : Sta Z Z.heap "java/lang/StringUTF16" "$assertionsDisabled" "Z" (.int (1 : Int32))) (SHI : Sta Z Z.heap "java/lang/StringUTF16" "HI_BYTE_SHIFT" "I" (.int (0 : Int32))) (SLO : Sta Z Z.heap "java/lang/StringUTF16" "LO_BYTE_SHIFT" "I" (.int (8 : Int32))) (O_ : Old Z n0 h0) :
    MetFree l (⟨"java/lang/String", "encodeUTF8_UTF16", "([BZ)[B"⟩ : MethodName) (head1 (Jvm.Cond.code (⟨"java/lang/String", "encodeUTF8_UTF16", "([BZ)[B"⟩ : MethodName) jdk_42_method_47_code 9 (some (.array .byte)) :: ws) ({ frames := 2, cells := 2, slots := 5, locals := 32 } : Room)) (fun a U => a = #[(.ref a1), (.int (1 : Int32))] ∧ Z.Warmed39 U.vm ∧ U.heap = h0) (fun _ _ _ _ _ => True) (fun _ U o U' => ∃ v L, o = .returned v ∧ Que1 Z a1 c0 h0 n0 v U'.heap L ∧ FrameEnd U o U' L ({ frames := 2, cells := 2, slots := 5, locals := 32 } : Room).cells ({ frames := 2, cells := 2, slots := 5, locals := 32 } : Room).slots) := by
  have W := @own_wd Z a0 hw
  refine MetFree.of_bodySF (plainFor_of_name pn_25) hisR ?_
  intro p e s m args below meth c s₁ Bd hml0 hP hK
  obtain ⟨rfl, hZ, hh⟩ := hP
  have hx := Bd.exec
  have hby := Bd.bytes
  have hlk : meth.locks = false := BodyLoose.notSynchronized Bd
  have hml : c.maxLocals = 9 := hml0
  have hown : s.vm.findClass "java/lang/String" = some m.cls := findClass_of_methodNamed Bd.named
  have hnm := (name_of_methodNamed Bd.named Bd.method).1
  have X0 : Stand p l e ({ frames := 2, cells := 2, slots := 5, locals := 32 } : Room) s m #[(.ref a1), (.int (1 : Int32))] below meth c s₁ [] 0 0 := Stand.of_body Bd
  have e0 : s₁.heap = h0 := by rw [← hh, Bd.state]; rfl
  have N0 := Fr.nil n0
  show Gl p.tables e below _ _
  refine Gl.pre (fun t k => castTop (ef_ue1 m a1 c0) k) ?_
  refine Gl.gen (fun PP hPP => ?_)
  have K0 : Keep h0 h0 [] := Keep.refl h0 _
  show Gl p.tables e below PP (s₁.setTop (mkF m 0 #[.val (.ref a1), .val (.int (1 : Int32)), .unset, .unset, .unset, .unset, .unset, .unset, .unset] []))
  refine Y.iconst X0 hx (hb hby d25_0) ?_
  refine Y.istoreN X0 hx (hb hby d25_1) rfl (l' := #[.val (.ref a1), .val (.int (1 : Int32)), .val (.int (0 : Int32)), .unset, .unset, .unset, .unset, .unset, .unset]) rfl ?_
  refine Y.iconst X0 hx (hb hby d25_2) ?_
  refine Y.istoreN X0 hx (hb hby d25_3) rfl (l' := #[.val (.ref a1), .val (.int (1 : Int32)), .val (.int (0 : Int32)), .val (.int (0 : Int32)), .unset, .unset, .unset, .unset, .unset]) rfl ?_
  refine Y.aloadN X0 hx (hb hby d25_4) rfl rfl ?_
  refine Gl.pre (fun _ k => own_len X0 hx hZ e0 V_a1 (v := (2 : Int32)) rfl (g := (mkF m 5 #[.val (.ref a1), .val (.int (1 : Int32)), .val (.int (0 : Int32)), .val (.int (0 : Int32)), .unset, .unset, .unset, .unset, .unset] [(.ref a1)])) rfl rfl (hb hby d25_5) _ k) ?_
  refine Y.iconst X0 hx (hb hby d25_6) ?_
  refine Y.ishr X0 hx (hb hby d25_7) rfl ?_
  show Gl p.tables e below PP (s₁.setTop (mkF m 8 #[.val (.ref a1), .val (.int (1 : Int32)), .val (.int (0 : Int32)), .val (.int (0 : Int32)), .unset, .unset, .unset, .unset, .unset] [(.int ((2 : Int32) >>> ((1 : Int32) &&& 31)))]))
  rw [show ((2 : Int32) >>> ((1 : Int32) &&& 31)) = (1 : Int32) by decide]
  show Gl p.tables e below PP (s₁.setTop (mkF m 8 #[.val (.ref a1), .val (.int (1 : Int32)), .val (.int (0 : Int32)), .val (.int (0 : Int32)), .unset, .unset, .unset, .unset, .unset] [(.int (1 : Int32))]))
  refine Y.istore X0 hx (hb hby d25_8) rfl (l' := #[.val (.ref a1), .val (.int (1 : Int32)), .val (.int (0 : Int32)), .val (.int (0 : Int32)), .val (.int (1 : Int32)), .unset, .unset, .unset, .unset]) rfl ?_
  refine Y.iload X0 hx (hb hby d25_10) rfl ?_
  refine Y.iconst X0 hx (hb hby d25_12) ?_
  refine Y.imul X0 hx (hb hby d25_13) rfl ?_
  show Gl p.tables e below PP (s₁.setTop (mkF m 14 #[.val (.ref a1), .val (.int (1 : Int32)), .val (.int (0 : Int32)), .val (.int (0 : Int32)), .val (.int (1 : Int32)), .unset, .unset, .unset, .unset] [(.int ((1 : Int32) * (3 : Int32)))]))
  rw [show ((1 : Int32) * (3 : Int32)) = (3 : Int32) by decide]
  show Gl p.tables e below PP (s₁.setTop (mkF m 14 #[.val (.ref a1), .val (.int (1 : Int32)), .val (.int (0 : Int32)), .val (.int (0 : Int32)), .val (.int (1 : Int32)), .unset, .unset, .unset, .unset] [(.int (3 : Int32))]))
  obtain ⟨T1, h1, k1, X1, e1, E1, A1, st1⟩ := newP X0 hx hZ (W 28 rfl) e0 (g := (mkF m 14 #[.val (.ref a1), .val (.int (1 : Int32)), .val (.int (0 : Int32)), .val (.int (0 : Int32)), .val (.int (1 : Int32)), .unset, .unset, .unset, .unset] [(.int (3 : Int32))])) rfl (hb hby d25_14) rfl (by decide) (cap := 3) (by decide) (by decide) (by decide) (by decide)
  obtain ⟨b1, g1⟩ : ∃ z, z = h0.size := ⟨_, rfl⟩
  rw [← g1] at A1 st1
  refine Gl.pre (fun _ k => st1 _ k) ?_
  have own_ne_a1_b1 : a1 ≠ b1 := by have q := V_a1.lt; rw [g1]; exact Nat.ne_of_lt q
  have own_ne_b1_a1 : b1 ≠ a1 := own_ne_a1_b1.symm
  have g_b1 : n0 ≤ b1 := Nat.le_trans Z0 (Nat.le_of_eq g1.symm)
  have sz_b1 : h0.size ≤ b1 := Nat.le_trans K0.1 (Nat.le_of_eq g1.symm)
  have V_a1 := V_a1.ext E1
  have O_ := O_.ext E1
  have Z1 : n0 ≤ h1.size := Nat.le_trans Z0 E1.1
  have K1 := K0.ext E1
  have V_b1 : Bal Z h1 b1 .byte [(0 : Int32), (0 : Int32), (0 : Int32)] := Bal.new (ty := .byte) A1 (n := 3) (by decide) rfl
  refine Y.astore X1 hx (hb hby d25_16) rfl rfl (l' := #[.val (.ref a1), .val (.int (1 : Int32)), .val (.int (0 : Int32)), .val (.int (0 : Int32)), .val (.int (1 : Int32)), .val (.ref b1), .unset, .unset, .unset]) rfl ?_
  refine Y.iloadN X1 hx (hb hby d25_18) rfl ?_
  refine Y.iload X1 hx (hb hby d25_19) rfl ?_
  refine Y.icmpNo X1 hx (hb hby d25_21) rfl (tlt (show (0 : Int32) < (1 : Int32) from (by decide))).2.1 ?_
  refine Y.aloadN X1 hx (hb hby d25_24) rfl rfl ?_
  refine Y.iloadN X1 hx (hb hby d25_25) rfl ?_
  obtain ⟨_, _, ⟨T2, L2, k2, n2⟩, -, X2, ⟨Lc2, hQ2, l2, y2, z2⟩, st2⟩ := Jvm.LawKit.callS X1 hx (y := (⟨"java/lang/StringUTF16", "getChar", "([BI)C"⟩ : MethodName)) hown (mvT hZ (W 121 rfl)) (mvT hZ (W 116 rfl)) (mvT hZ (W 26 rfl)) (mvT hZ (W 117 rfl)) (by decide) (backOf (W := 0) (rmgc1_0 l Z a0 hw [] a1 (nar .byte ((c0 >>> ((0 : Int32) &&& 31)).toInt8.toInt32)) (nar .byte ((c0 >>> ((8 : Int32) &&& 31)).toInt8.toInt32)) h1 n0 Z1 V_a1 SAD SHI SLO O_) hZ (W 117 rfl) (W 26 rfl) (by decide) (by decide)) (g := (mkF m 26 #[.val (.ref a1), .val (.int (1 : Int32)), .val (.int (0 : Int32)), .val (.int (0 : Int32)), .val (.int (1 : Int32)), .val (.ref b1), .unset, .unset, .unset] [(.int (0 : Int32)), (.ref a1)])) rfl (by rw [hml]; rfl) (argsL := [(.ref a1), (.int (0 : Int32))]) (rest := []) (lenOf pd_5 rfl) rfl (by show 2 * 0 + _ ≤ _; exact Nat.le_of_eq rfl) (hb hby d25_26) (fun _ _ => ⟨rfl, e1, (by decide : 1 + 0 ≤ _), (by decide : 3 + 0 ≤ _)⟩)
  dsimp only [Pt.U, Pt.locs, Pt.cells, Pt.slots] at X2 l2 y2 z2 st2 hQ2
  subst l2 y2 z2
  obtain ⟨rfl, N2q, e2⟩ := hQ2
  have N2 := Fr.app N0 N2q
  refine Gl.pre (fun _ k => st2 _ k) ?_
  rw [own_gc c0 hr0.1 hr0.2]
  show Gl p.tables e below PP (T2.setTop (mkF m 29 #[.val (.ref a1), .val (.int (1 : Int32)), .val (.int (0 : Int32)), .val (.int (0 : Int32)), .val (.int (1 : Int32)), .val (.ref b1), .unset, .unset, .unset] [(.int c0)]))
  refine Y.istore X2 hx (hb hby d25_29) rfl (l' := #[.val (.ref a1), .val (.int (1 : Int32)), .val (.int (0 : Int32)), .val (.int (0 : Int32)), .val (.int (1 : Int32)), .val (.ref b1), .val (.int c0), .unset, .unset]) rfl ?_
  refine Y.iload X2 hx (hb hby d25_31) rfl ?_
  refine Y.sipush X2 hx (hb hby d25_33) ?_
  refine Y.icmpNo X2 hx (hb hby d25_36) rfl (flt (show ¬ (c0 < (128 : Int32)) from (own_g128 hc0))).1 ?_
  refine Y.goto X2 hx (pc0 := 39) (pc' := 58) rfl (hb hby d25_39) (by decide) (by decide) ?_
  refine Y.iloadN X2 hx (hb hby d25_58) rfl ?_
  refine Y.iload X2 hx (hb hby d25_59) rfl ?_
  refine Y.icmpNo X2 hx (hb hby d25_61) rfl (tlt (show (0 : Int32) < (1 : Int32) from (by decide))).2.1 ?_
  refine Y.aloadN X2 hx (hb hby d25_64) rfl rfl ?_
  refine Y.iloadN X2 hx (hb hby d25_65) rfl ?_
  refine Y.iinc X2 hx (hb hby d25_66) rfl (l' := #[.val (.ref a1), .val (.int (1 : Int32)), .val (.int (0 : Int32)), .val (.int (1 : Int32)), .val (.int (1 : Int32)), .val (.ref b1), .val (.int c0), .unset, .unset]) rfl ?_
  obtain ⟨_, _, ⟨T3, L3, k3, n3⟩, -, X3, ⟨Lc3, hQ3, l3, y3, z3⟩, st3⟩ := Jvm.LawKit.callS X2 hx (y := (⟨"java/lang/StringUTF16", "getChar", "([BI)C"⟩ : MethodName)) hown (mvT hZ (W 121 rfl)) (mvT hZ (W 116 rfl)) (mvT hZ (W 26 rfl)) (mvT hZ (W 117 rfl)) (by decide) (backOf (W := 0) (rmgc1_0 l Z a0 hw [] a1 (nar .byte ((c0 >>> ((0 : Int32) &&& 31)).toInt8.toInt32)) (nar .byte ((c0 >>> ((8 : Int32) &&& 31)).toInt8.toInt32)) h1 n0 Z1 V_a1 SAD SHI SLO O_) hZ (W 117 rfl) (W 26 rfl) (by decide) (by decide)) (g := (mkF m 69 #[.val (.ref a1), .val (.int (1 : Int32)), .val (.int (0 : Int32)), .val (.int (1 : Int32)), .val (.int (1 : Int32)), .val (.ref b1), .val (.int c0), .unset, .unset] [(.int (0 : Int32)), (.ref a1)])) rfl (by rw [hml]; rfl) (argsL := [(.ref a1), (.int (0 : Int32))]) (rest := []) (lenOf pd_5 rfl) rfl (by show 2 * 0 + _ ≤ _; exact Nat.le_of_eq rfl) (hb hby d25_69) (fun _ _ => ⟨rfl, e2, (by decide : 1 + 0 ≤ _), (by decide : 3 + 0 ≤ _)⟩)
  dsimp only [Pt.U, Pt.locs, Pt.cells, Pt.slots] at X3 l3 y3 z3 st3 hQ3
  subst l3 y3 z3
  obtain ⟨rfl, N3q, e3⟩ := hQ3
  have N3 := Fr.app N2 N3q
  refine Gl.pre (fun _ k => st3 _ k) ?_
  rw [own_gc c0 hr0.1 hr0.2]
  show Gl p.tables e below PP (T3.setTop (mkF m 72 #[.val (.ref a1), .val (.int (1 : Int32)), .val (.int (0 : Int32)), .val (.int (1 : Int32)), .val (.int (1 : Int32)), .val (.ref b1), .val (.int c0), .unset, .unset] [(.int c0)]))
  refine Y.istore X3 hx (hb hby d25_72) rfl (l' := #[.val (.ref a1), .val (.int (1 : Int32)), .val (.int (0 : Int32)), .val (.int (1 : Int32)), .val (.int (1 : Int32)), .val (.ref b1), .val (.int c0), .unset, .unset]) rfl ?_
  refine Y.iload X3 hx (hb hby d25_74) rfl ?_
  refine Y.sipush X3 hx (hb hby d25_76) ?_
  refine Y.icmpYes X3 hx (pc0 := 79) (pc' := 95) rfl (hb hby d25_79) rfl (flt (show ¬ (c0 < (128 : Int32)) from (own_g128 hc0))).2.1 (by decide) (by decide) ?_
  refine Y.iload X3 hx (hb hby d25_95) rfl ?_
  refine Y.sipush X3 hx (hb hby d25_97) ?_
  by_cases hc4 : c0 < (2048 : Int32)
  refine Y.icmpNo X3 hx (hb hby d25_100) rfl (tlt hc4).2.1 ?_
  refine Y.aload X3 hx (hb hby d25_103) rfl rfl ?_
  refine Y.iloadN X3 hx (hb hby d25_105) rfl ?_
  refine Y.iinc X3 hx (hb hby d25_106) rfl (l' := #[.val (.ref a1), .val (.int (1 : Int32)), .val (.int (1 : Int32)), .val (.int (1 : Int32)), .val (.int (1 : Int32)), .val (.ref b1), .val (.int c0), .unset, .unset]) rfl ?_
  refine Y.sipush X3 hx (hb hby d25_109) ?_
  refine Y.iload X3 hx (hb hby d25_112) rfl ?_
  refine Y.bipush X3 hx (hb hby d25_114) ?_
  refine Y.ishr X3 hx (hb hby d25_116) rfl ?_
  refine Y.ior X3 hx (hb hby d25_117) rfl ?_
  refine Y.i2b X3 hx (hb hby d25_118) rfl ?_
  obtain ⟨T5, h5, X5, e5, W5, V5, st5⟩ := own_stB X3 hx hZ e3 V_b1 (j := (0 : Int32)) (i := 0) (by decide) (by decide) (Nat.lt_of_lt_of_eq (by decide : 0 < 3) rfl) (g := (mkF m 119 #[.val (.ref a1), .val (.int (1 : Int32)), .val (.int (1 : Int32)), .val (.int (1 : Int32)), .val (.int (1 : Int32)), .val (.ref b1), .val (.int c0), .unset, .unset] [(.int (((192 : Int32) ||| (c0 >>> ((6 : Int32) &&& 31))).toInt8.toInt32)), (.int (0 : Int32)), (.ref b1)])) rfl rfl (hb hby d25_119)
  refine Gl.pre (fun _ k => st5 _ k) ?_
  have V_a1 := V_a1.other W5 (own_ne_a1_b1)
  have O_ := O_.wr W5 g_b1
  have Z5 : n0 ≤ h5.size := by rw [W5.size]; exact Z1
  have N5 := Fr.snoc X5 N3 g_b1
  have K5 := K1.wr W5 (Or.inr sz_b1)
  have V_b1 : Bal Z h5 b1 .byte [(nar .byte (((192 : Int32) ||| (c0 >>> ((6 : Int32) &&& 31))).toInt8.toInt32)), (0 : Int32), (0 : Int32)] := V5
  refine Y.aload X5 hx (hb hby d25_120) rfl rfl ?_
  refine Y.iloadN X5 hx (hb hby d25_122) rfl ?_
  refine Y.iinc X5 hx (hb hby d25_123) rfl (l' := #[.val (.ref a1), .val (.int (1 : Int32)), .val (.int (2 : Int32)), .val (.int (1 : Int32)), .val (.int (1 : Int32)), .val (.ref b1), .val (.int c0), .unset, .unset]) rfl ?_
  refine Y.sipush X5 hx (hb hby d25_126) ?_
  refine Y.iload X5 hx (hb hby d25_129) rfl ?_
  refine Y.bipush X5 hx (hb hby d25_131) ?_
  refine Y.iand X5 hx (hb hby d25_133) rfl ?_
  refine Y.ior X5 hx (hb hby d25_134) rfl ?_
  refine Y.i2b X5 hx (hb hby d25_135) rfl ?_
  obtain ⟨T6, h6, X6, e6, W6, V6, st6⟩ := own_stB X5 hx hZ e5 V_b1 (j := (1 : Int32)) (i := 1) (by decide) (by decide) (Nat.lt_of_lt_of_eq (by decide : 1 < 3) rfl) (g := (mkF m 136 #[.val (.ref a1), .val (.int (1 : Int32)), .val (.int (2 : Int32)), .val (.int (1 : Int32)), .val (.int (1 : Int32)), .val (.ref b1), .val (.int c0), .unset, .unset] [(.int (((128 : Int32) ||| (c0 &&& (63 : Int32))).toInt8.toInt32)), (.int (1 : Int32)), (.ref b1)])) rfl rfl (hb hby d25_136)
  refine Gl.pre (fun _ k => st6 _ k) ?_
  have V_a1 := V_a1.other W6 (own_ne_a1_b1)
  have O_ := O_.wr W6 g_b1
  have Z6 : n0 ≤ h6.size := by rw [W6.size]; exact Z5
  have N6 := Fr.snoc X6 N5 g_b1
  have K6 := K5.wr W6 (Or.inr sz_b1)
  have V_b1 : Bal Z h6 b1 .byte [(nar .byte (((192 : Int32) ||| (c0 >>> ((6 : Int32) &&& 31))).toInt8.toInt32)), (nar .byte (((128 : Int32) ||| (c0 &&& (63 : Int32))).toInt8.toInt32)), (0 : Int32)] := V6
  refine Y.goto X6 hx (pc0 := 137) (pc' := 352) rfl (hb hby d25_137) (by decide) (by decide) ?_
  refine Y.goto X6 hx (pc0 := 352) (pc' := 58) rfl (hb hby d25_352) (by decide) (by decide) ?_
  refine Y.iloadN X6 hx (hb hby d25_58) rfl ?_
  refine Y.iload X6 hx (hb hby d25_59) rfl ?_
  refine Y.icmpYes X6 hx (pc0 := 61) (pc' := 355) rfl (hb hby d25_61) rfl (flt (show ¬ ((1 : Int32) < (1 : Int32)) from (by decide))).2.1 (by decide) (by decide) ?_
  refine Y.iloadN X6 hx (hb hby d25_355) rfl ?_
  refine Y.aload X6 hx (hb hby d25_356) rfl rfl ?_
  refine Gl.pre (fun _ k => own_len X6 hx hZ e6 V_b1 (v := (3 : Int32)) rfl (g := (mkF m 358 #[.val (.ref a1), .val (.int (1 : Int32)), .val (.int (2 : Int32)), .val (.int (1 : Int32)), .val (.int (1 : Int32)), .val (.ref b1), .val (.int c0), .unset, .unset] [(.ref b1), (.int (2 : Int32))])) rfl rfl (hb hby d25_358) _ k) ?_
  refine Y.icmpYes X6 hx (pc0 := 359) (pc' := 365) rfl (hb hby d25_359) rfl (feq (show ¬ ((2 : Int32) = (3 : Int32)) from (by decide))).2 (by decide) (by decide) ?_
  refine Y.aload X6 hx (hb hby d25_365) rfl rfl ?_
  refine Y.iloadN X6 hx (hb hby d25_367) rfl ?_
  obtain ⟨_, _, ⟨T7, L7, k7, n7⟩, -, X7, ⟨Lc7, hQ7, l7, y7, z7⟩, st7⟩ := Jvm.LawKit.callS X6 hx (y := (⟨"java/util/Arrays", "copyOf", "([BI)[B"⟩ : MethodName)) hown (mvT hZ (W 129 rfl)) (mvT hZ (W 130 rfl)) (mvT hZ (W 131 rfl)) (mvT hZ (W 132 rfl)) (by decide) (backOf (W := 0) (rmco3_2 l Z a0 hw [] b1 (nar .byte (((192 : Int32) ||| (c0 >>> ((6 : Int32) &&& 31))).toInt8.toInt32)) (nar .byte (((128 : Int32) ||| (c0 &&& (63 : Int32))).toInt8.toInt32)) (0 : Int32) h6 n0 Z6 V_b1 (by intro x hx; simp only [List.mem_cons, List.not_mem_nil, or_false] at hx; rcases hx with rfl | rfl | rfl <;> first | exact fits_nar_byte _ | rfl)) hZ (W 132 rfl) (W 131 rfl) (by decide) (by decide)) (g := (mkF m 368 #[.val (.ref a1), .val (.int (1 : Int32)), .val (.int (2 : Int32)), .val (.int (1 : Int32)), .val (.int (1 : Int32)), .val (.ref b1), .val (.int c0), .unset, .unset] [(.int (2 : Int32)), (.ref b1)])) rfl (by rw [hml]; rfl) (argsL := [(.ref b1), (.int (2 : Int32))]) (rest := []) (lenOf pd_10 rfl) rfl (by show 2 * 0 + _ ≤ _; exact Nat.le_of_eq rfl) (hb hby d25_368) (fun _ _ => ⟨rfl, e6, (by decide : 1 + 1 ≤ _), (by decide : 3 + 2 ≤ _)⟩)
  dsimp only [Pt.U, Pt.locs, Pt.cells, Pt.slots] at X7 l7 y7 z7 st7 hQ7
  subst l7 y7 z7
  obtain ⟨bo7, rfl, N7q, hz7, K7, V7q⟩ := hQ7
  have N7 := Fr.app N6 N7q
  refine Gl.pre (fun _ k => st7 _ k) ?_
  have own_ne_a1_bo7 : a1 ≠ bo7 := Nat.ne_of_lt (Nat.lt_of_lt_of_le V_a1.lt hz7)
  have own_ne_bo7_a1 := own_ne_a1_bo7.symm
  have own_ne_b1_bo7 : b1 ≠ bo7 := Nat.ne_of_lt (Nat.lt_of_lt_of_le V_b1.lt hz7)
  have own_ne_bo7_b1 := own_ne_b1_bo7.symm
  have g_bo7 : n0 ≤ bo7 := Nat.le_trans Z6 hz7
  have sz_bo7 : h0.size ≤ bo7 := Nat.le_trans K6.1 hz7
  have V_a1 := V_a1.keep K7 nin0
  have O_ := O_.keep K7 all0
  have V_b1 := V_b1.keep K7 nin0
  have Z7 : n0 ≤ T7.heap.size := Nat.le_trans Z6 K7.1
  have K7k := K6.trans K7 all0
  have V_bo7 := V7q
  rw [hPP]
  refine own_finA (Q := (Que1 Z a1 c0 h0 n0)) X7 hx hlk Bd.returns rfl rfl (hb hby d25_371) ?_ (by decide) (by decide)
  show Que1 Z a1 c0 h0 n0 _ T7.heap _
  refine ⟨bo7, rfl, N7, sz_bo7, K7k, ?_⟩
  rw [own_ue1, own_u1b (own_g128 hc0) hc4]; exact V_bo7
  refine Y.icmpYes X3 hx (pc0 := 100) (pc' := 140) rfl (hb hby d25_100) rfl (flt hc4).2.1 (by decide) (by decide) ?_
  refine Y.iload X3 hx (hb hby d25_140) rfl ?_
  obtain ⟨_, _, ⟨T8, L8, k8, n8⟩, -, X8, ⟨Lc8, hQ8, l8, y8, z8⟩, st8⟩ := Jvm.LawKit.callS X3 hx (y := (⟨"java/lang/Character", "isSurrogate", "(C)Z"⟩ : MethodName)) hown (mvT hZ (W 122 rfl)) (mvT hZ (W 123 rfl)) (mvT hZ (W 124 rfl)) (mvT hZ (W 125 rfl)) (by decide) (backOf (W := 0) (rmiss l Z a0 hw [] c0 h1 n0 Z1 hn0) hZ (W 125 rfl) (W 124 rfl) (by decide) (by decide)) (g := (mkF m 142 #[.val (.ref a1), .val (.int (1 : Int32)), .val (.int (0 : Int32)), .val (.int (1 : Int32)), .val (.int (1 : Int32)), .val (.ref b1), .val (.int c0), .unset, .unset] [(.int c0)])) rfl (by rw [hml]; rfl) (argsL := [(.int c0)]) (rest := []) (lenOf pd_11 rfl) rfl (by show 2 * 0 + _ ≤ _; exact Nat.le_of_eq rfl) (hb hby d25_142) (fun _ _ => ⟨rfl, e3, (by decide : 1 + 0 ≤ _), (by decide : 3 + 0 ≤ _)⟩)
  dsimp only [Pt.U, Pt.locs, Pt.cells, Pt.slots] at X8 l8 y8 z8 st8 hQ8
  subst l8 y8 z8
  obtain ⟨rfl, N8q, e8⟩ := hQ8
  have N8 := Fr.app N3 N8q
  refine Gl.pre (fun _ k => st8 _ k) ?_
  refine Y.ifYes X8 hx (pc0 := 145) (pc' := 298) rfl (hb hby d25_145) rfl ((if0 _ _).trans (teq (show (0 : Int32) = (0 : Int32) from (by decide))).1) (by decide) (by decide) ?_
  refine Y.aload X8 hx (hb hby d25_298) rfl rfl ?_
  refine Y.iloadN X8 hx (hb hby d25_300) rfl ?_
  refine Y.iinc X8 hx (hb hby d25_301) rfl (l' := #[.val (.ref a1), .val (.int (1 : Int32)), .val (.int (1 : Int32)), .val (.int (1 : Int32)), .val (.int (1 : Int32)), .val (.ref b1), .val (.int c0), .unset, .unset]) rfl ?_
  refine Y.sipush X8 hx (hb hby d25_304) ?_
  refine Y.iload X8 hx (hb hby d25_307) rfl ?_
  refine Y.bipush X8 hx (hb hby d25_309) ?_
  refine Y.ishr X8 hx (hb hby d25_311) rfl ?_
  refine Y.ior X8 hx (hb hby d25_312) rfl ?_
  refine Y.i2b X8 hx (hb hby d25_313) rfl ?_
  obtain ⟨T9, h9, X9, e9, W9, V9, st9⟩ := own_stB X8 hx hZ e8 V_b1 (j := (0 : Int32)) (i := 0) (by decide) (by decide) (Nat.lt_of_lt_of_eq (by decide : 0 < 3) rfl) (g := (mkF m 314 #[.val (.ref a1), .val (.int (1 : Int32)), .val (.int (1 : Int32)), .val (.int (1 : Int32)), .val (.int (1 : Int32)), .val (.ref b1), .val (.int c0), .unset, .unset] [(.int (((224 : Int32) ||| (c0 >>> ((12 : Int32) &&& 31))).toInt8.toInt32)), (.int (0 : Int32)), (.ref b1)])) rfl rfl (hb hby d25_314)
  refine Gl.pre (fun _ k => st9 _ k) ?_
  have V_a1 := V_a1.other W9 (own_ne_a1_b1)
  have O_ := O_.wr W9 g_b1
  have Z9 : n0 ≤ h9.size := by rw [W9.size]; exact Z1
  have N9 := Fr.snoc X9 N8 g_b1
  have K9 := K1.wr W9 (Or.inr sz_b1)
  have V_b1 : Bal Z h9 b1 .byte [(nar .byte (((224 : Int32) ||| (c0 >>> ((12 : Int32) &&& 31))).toInt8.toInt32)), (0 : Int32), (0 : Int32)] := V9
  refine Y.aload X9 hx (hb hby d25_315) rfl rfl ?_
  refine Y.iloadN X9 hx (hb hby d25_317) rfl ?_
  refine Y.iinc X9 hx (hb hby d25_318) rfl (l' := #[.val (.ref a1), .val (.int (1 : Int32)), .val (.int (2 : Int32)), .val (.int (1 : Int32)), .val (.int (1 : Int32)), .val (.ref b1), .val (.int c0), .unset, .unset]) rfl ?_
  refine Y.sipush X9 hx (hb hby d25_321) ?_
  refine Y.iload X9 hx (hb hby d25_324) rfl ?_
  refine Y.bipush X9 hx (hb hby d25_326) ?_
  refine Y.ishr X9 hx (hb hby d25_328) rfl ?_
  refine Y.bipush X9 hx (hb hby d25_329) ?_
  refine Y.iand X9 hx (hb hby d25_331) rfl ?_
  refine Y.ior X9 hx (hb hby d25_332) rfl ?_
  refine Y.i2b X9 hx (hb hby d25_333) rfl ?_
  obtain ⟨T10, h10, X10, e10, W10, V10, st10⟩ := own_stB X9 hx hZ e9 V_b1 (j := (1 : Int32)) (i := 1) (by decide) (by decide) (Nat.lt_of_lt_of_eq (by decide : 1 < 3) rfl) (g := (mkF m 334 #[.val (.ref a1), .val (.int (1 : Int32)), .val (.int (2 : Int32)), .val (.int (1 : Int32)), .val (.int (1 : Int32)), .val (.ref b1), .val (.int c0), .unset, .unset] [(.int (((128 : Int32) ||| ((c0 >>> ((6 : Int32) &&& 31)) &&& (63 : Int32))).toInt8.toInt32)), (.int (1 : Int32)), (.ref b1)])) rfl rfl (hb hby d25_334)
  refine Gl.pre (fun _ k => st10 _ k) ?_
  have V_a1 := V_a1.other W10 (own_ne_a1_b1)
  have O_ := O_.wr W10 g_b1
  have Z10 : n0 ≤ h10.size := by rw [W10.size]; exact Z9
  have N10 := Fr.snoc X10 N9 g_b1
  have K10 := K9.wr W10 (Or.inr sz_b1)
  have V_b1 : Bal Z h10 b1 .byte [(nar .byte (((224 : Int32) ||| (c0 >>> ((12 : Int32) &&& 31))).toInt8.toInt32)), (nar .byte (((128 : Int32) ||| ((c0 >>> ((6 : Int32) &&& 31)) &&& (63 : Int32))).toInt8.toInt32)), (0 : Int32)] := V10
  refine Y.aload X10 hx (hb hby d25_335) rfl rfl ?_
  refine Y.iloadN X10 hx (hb hby d25_337) rfl ?_
  refine Y.iinc X10 hx (hb hby d25_338) rfl (l' := #[.val (.ref a1), .val (.int (1 : Int32)), .val (.int (3 : Int32)), .val (.int (1 : Int32)), .val (.int (1 : Int32)), .val (.ref b1), .val (.int c0), .unset, .unset]) rfl ?_
  refine Y.sipush X10 hx (hb hby d25_341) ?_
  refine Y.iload X10 hx (hb hby d25_344) rfl ?_
  refine Y.bipush X10 hx (hb hby d25_346) ?_
  refine Y.iand X10 hx (hb hby d25_348) rfl ?_
  refine Y.ior X10 hx (hb hby d25_349) rfl ?_
  refine Y.i2b X10 hx (hb hby d25_350) rfl ?_
  obtain ⟨T11, h11, X11, e11, W11, V11, st11⟩ := own_stB X10 hx hZ e10 V_b1 (j := (2 : Int32)) (i := 2) (by decide) (by decide) (Nat.lt_of_lt_of_eq (by decide : 2 < 3) rfl) (g := (mkF m 351 #[.val (.ref a1), .val (.int (1 : Int32)), .val (.int (3 : Int32)), .val (.int (1 : Int32)), .val (.int (1 : Int32)), .val (.ref b1), .val (.int c0), .unset, .unset] [(.int (((128 : Int32) ||| (c0 &&& (63 : Int32))).toInt8.toInt32)), (.int (2 : Int32)), (.ref b1)])) rfl rfl (hb hby d25_351)
  refine Gl.pre (fun _ k => st11 _ k) ?_
  have V_a1 := V_a1.other W11 (own_ne_a1_b1)
  have O_ := O_.wr W11 g_b1
  have Z11 : n0 ≤ h11.size := by rw [W11.size]; exact Z10
  have N11 := Fr.snoc X11 N10 g_b1
  have K11 := K10.wr W11 (Or.inr sz_b1)
  have V_b1 : Bal Z h11 b1 .byte [(nar .byte (((224 : Int32) ||| (c0 >>> ((12 : Int32) &&& 31))).toInt8.toInt32)), (nar .byte (((128 : Int32) ||| ((c0 >>> ((6 : Int32) &&& 31)) &&& (63 : Int32))).toInt8.toInt32)), (nar .byte (((128 : Int32) ||| (c0 &&& (63 : Int32))).toInt8.toInt32))] := V11
  refine Y.goto X11 hx (pc0 := 352) (pc' := 58) rfl (hb hby d25_352) (by decide) (by decide) ?_
  refine Y.iloadN X11 hx (hb hby d25_58) rfl ?_
  refine Y.iload X11 hx (hb hby d25_59) rfl ?_
  refine Y.icmpYes X11 hx (pc0 := 61) (pc' := 355) rfl (hb hby d25_61) rfl (flt (show ¬ ((1 : Int32) < (1 : Int32)) from (by decide))).2.1 (by decide) (by decide) ?_
  refine Y.iloadN X11 hx (hb hby d25_355) rfl ?_
  refine Y.aload X11 hx (hb hby d25_356) rfl rfl ?_
  refine Gl.pre (fun _ k => own_len X11 hx hZ e11 V_b1 (v := (3 : Int32)) rfl (g := (mkF m 358 #[.val (.ref a1), .val (.int (1 : Int32)), .val (.int (3 : Int32)), .val (.int (1 : Int32)), .val (.int (1 : Int32)), .val (.ref b1), .val (.int c0), .unset, .unset] [(.ref b1), (.int (3 : Int32))])) rfl rfl (hb hby d25_358) _ k) ?_
  refine Y.icmpNo X11 hx (hb hby d25_359) rfl (teq (show (3 : Int32) = (3 : Int32) from (by decide))).2 ?_
  refine Y.aload X11 hx (hb hby d25_362) rfl rfl ?_
  rw [hPP]
  refine own_finA (Q := (Que1 Z a1 c0 h0 n0)) X11 hx hlk Bd.returns rfl rfl (hb hby d25_364) ?_ (by decide) (by decide)
  show Que1 Z a1 c0 h0 n0 _ T11.heap _
  rw [e11]
  refine ⟨b1, rfl, N11, sz_b1, K11, ?_⟩
  rw [own_ue1, own_u1c (own_g128 hc0) hc4]; exact V_b1
theorem ef_ue2 (m : MethodId) (a1 : Addr) (c0 : Int32) (c1 : Int32) : entryFrame m #[(.ref a1), (.int (1 : Int32))] 9 = mkF m 0 #[.val (.ref a1), .val (.int (1 : Int32)), .unset, .unset, .unset, .unset, .unset, .unset, .unset] [] := by first | (simp [entryFrame, mkF, argsToLocals, Value.category]; done) | rfl
def Que2 (Z : State) (a1 : Addr) (c0 : Int32) (c1 : Int32) (h0 : Heap) (n0 : Nat) (v : Option Value) (h : Heap) (L : List Loc) : Prop := ∃ b : Addr, v = some (.ref b) ∧ Fr n0 L ∧ h0.size ≤ b ∧ Keep h0 h [] ∧ Bal Z h b .byte (own_u [c0, c1])
set_option maxRecDepth 65536 in
set_option maxHeartbeats 40000000 in
theorem rmue2 (l : Launch) (Z : State) (a0 : Array Value) (hw : ∀ d ∈ tables_1, d.before a0 Z = true) (ws : List Jvm.Cond) (a1 : Addr) (c0 : Int32) (c1 : Int32) (h0 : Heap) (n0 : Nat) (Z0 : n0 ≤ h0.size) (V_a1 : Bal Z h0 a1 .byte [(nar .byte ((c0 >>> ((0 : Int32) &&& 31)).toInt8.toInt32)), (nar .byte ((c0 >>> ((8 : Int32) &&& 31)).toInt8.toInt32)), (nar .byte ((c1 >>> ((0 : Int32) &&& 31)).toInt8.toInt32)), (nar .byte ((c1 >>> ((8 : Int32) &&& 31)).toInt8.toInt32))]) (hr0 : 0 ≤ c0.toInt ∧ c0.toInt < 65536) (hr1 : 0 ≤ c1.toInt ∧ c1.toInt < 65536) (hn0 : c0 < (55296 : Int32) ∨ ¬ (c0 < (57344 : Int32))) (hn1 : c1 < (55296 : Int32) ∨ ¬ (c1 < (57344 : Int32))) (SAD : Sta Z Z.heap "java/lang/StringUTF16" "$assertionsDisabled" "Z" (.int (1 : Int32))) (SHI : Sta Z Z.heap "java/lang/StringUTF16" "HI_BYTE_SHIFT" "I" (.int (0 : Int32))) (SLO : Sta Z Z.heap "java/lang/StringUTF16" "LO_BYTE_SHIFT" "I" (.int (8 : Int32))) (O_ : Old Z n0 h0) :
    MetFree l (⟨"java/lang/String", "encodeUTF8_UTF16", "([BZ)[B"⟩ : MethodName) (head1 (Jvm.Cond.code (⟨"java/lang/String", "encodeUTF8_UTF16", "([BZ)[B"⟩ : MethodName) jdk_42_method_47_code 9 (some (.array .byte)) :: ws) ({ frames := 2, cells := 2, slots := 11, locals := 32 } : Room)) (fun a U => a = #[(.ref a1), (.int (1 : Int32))] ∧ Z.Warmed39 U.vm ∧ U.heap = h0) (fun _ _ _ _ _ => True) (fun _ U o U' => ∃ v L, o = .returned v ∧ Que2 Z a1 c0 c1 h0 n0 v U'.heap L ∧ FrameEnd U o U' L ({ frames := 2, cells := 2, slots := 11, locals := 32 } : Room).cells ({ frames := 2, cells := 2, slots := 11, locals := 32 } : Room).slots) := by
  have W := @own_wd Z a0 hw
  refine MetFree.of_bodySF (plainFor_of_name pn_25) hisR ?_
  intro p e s m args below meth c s₁ Bd hml0 hP hK
  obtain ⟨rfl, hZ, hh⟩ := hP
  have hx := Bd.exec
  have hby := Bd.bytes
  have hlk : meth.locks = false := BodyLoose.notSynchronized Bd
  have hml : c.maxLocals = 9 := hml0
  have hown : s.vm.findClass "java/lang/String" = some m.cls := findClass_of_methodNamed Bd.named
  have hnm := (name_of_methodNamed Bd.named Bd.method).1
  have X0 : Stand p l e ({ frames := 2, cells := 2, slots := 11, locals := 32 } : Room) s m #[(.ref a1), (.int (1 : Int32))] below meth c s₁ [] 0 0 := Stand.of_body Bd
  have e0 : s₁.heap = h0 := by rw [← hh, Bd.state]; rfl
  have N0 := Fr.nil n0
  show Gl p.tables e below _ _
  refine Gl.pre (fun t k => castTop (ef_ue2 m a1 c0 c1) k) ?_
  refine Gl.gen (fun PP hPP => ?_)
  have K0 : Keep h0 h0 [] := Keep.refl h0 _
  show Gl p.tables e below PP (s₁.setTop (mkF m 0 #[.val (.ref a1), .val (.int (1 : Int32)), .unset, .unset, .unset, .unset, .unset, .unset, .unset] []))
  refine Y.iconst X0 hx (hb hby d25_0) ?_
  refine Y.istoreN X0 hx (hb hby d25_1) rfl (l' := #[.val (.ref a1), .val (.int (1 : Int32)), .val (.int (0 : Int32)), .unset, .unset, .unset, .unset, .unset, .unset]) rfl ?_
  refine Y.iconst X0 hx (hb hby d25_2) ?_
  refine Y.istoreN X0 hx (hb hby d25_3) rfl (l' := #[.val (.ref a1), .val (.int (1 : Int32)), .val (.int (0 : Int32)), .val (.int (0 : Int32)), .unset, .unset, .unset, .unset, .unset]) rfl ?_
  refine Y.aloadN X0 hx (hb hby d25_4) rfl rfl ?_
  refine Gl.pre (fun _ k => own_len X0 hx hZ e0 V_a1 (v := (4 : Int32)) rfl (g := (mkF m 5 #[.val (.ref a1), .val (.int (1 : Int32)), .val (.int (0 : Int32)), .val (.int (0 : Int32)), .unset, .unset, .unset, .unset, .unset] [(.ref a1)])) rfl rfl (hb hby d25_5) _ k) ?_
  refine Y.iconst X0 hx (hb hby d25_6) ?_
  refine Y.ishr X0 hx (hb hby d25_7) rfl ?_
  show Gl p.tables e below PP (s₁.setTop (mkF m 8 #[.val (.ref a1), .val (.int (1 : Int32)), .val (.int (0 : Int32)), .val (.int (0 : Int32)), .unset, .unset, .unset, .unset, .unset] [(.int ((4 : Int32) >>> ((1 : Int32) &&& 31)))]))
  rw [show ((4 : Int32) >>> ((1 : Int32) &&& 31)) = (2 : Int32) by decide]
  show Gl p.tables e below PP (s₁.setTop (mkF m 8 #[.val (.ref a1), .val (.int (1 : Int32)), .val (.int (0 : Int32)), .val (.int (0 : Int32)), .unset, .unset, .unset, .unset, .unset] [(.int (2 : Int32))]))
  refine Y.istore X0 hx (hb hby d25_8) rfl (l' := #[.val (.ref a1), .val (.int (1 : Int32)), .val (.int (0 : Int32)), .val (.int (0 : Int32)), .val (.int (2 : Int32)), .unset, .unset, .unset, .unset]) rfl ?_
  refine Y.iload X0 hx (hb hby d25_10) rfl ?_
  refine Y.iconst X0 hx (hb hby d25_12) ?_
  refine Y.imul X0 hx (hb hby d25_13) rfl ?_
  show Gl p.tables e below PP (s₁.setTop (mkF m 14 #[.val (.ref a1), .val (.int (1 : Int32)), .val (.int (0 : Int32)), .val (.int (0 : Int32)), .val (.int (2 : Int32)), .unset, .unset, .unset, .unset] [(.int ((2 : Int32) * (3 : Int32)))]))
  rw [show ((2 : Int32) * (3 : Int32)) = (6 : Int32) by decide]
  show Gl p.tables e below PP (s₁.setTop (mkF m 14 #[.val (.ref a1), .val (.int (1 : Int32)), .val (.int (0 : Int32)), .val (.int (0 : Int32)), .val (.int (2 : Int32)), .unset, .unset, .unset, .unset] [(.int (6 : Int32))]))
  obtain ⟨T1, h1, k1, X1, e1, E1, A1, st1⟩ := newP X0 hx hZ (W 28 rfl) e0 (g := (mkF m 14 #[.val (.ref a1), .val (.int (1 : Int32)), .val (.int (0 : Int32)), .val (.int (0 : Int32)), .val (.int (2 : Int32)), .unset, .unset, .unset, .unset] [(.int (6 : Int32))])) rfl (hb hby d25_14) rfl (by decide) (cap := 6) (by decide) (by decide) (by decide) (by decide)
  obtain ⟨b1, g1⟩ : ∃ z, z = h0.size := ⟨_, rfl⟩
  rw [← g1] at A1 st1
  refine Gl.pre (fun _ k => st1 _ k) ?_
  have own_ne_a1_b1 : a1 ≠ b1 := by have q := V_a1.lt; rw [g1]; exact Nat.ne_of_lt q
  have own_ne_b1_a1 : b1 ≠ a1 := own_ne_a1_b1.symm
  have g_b1 : n0 ≤ b1 := Nat.le_trans Z0 (Nat.le_of_eq g1.symm)
  have sz_b1 : h0.size ≤ b1 := Nat.le_trans K0.1 (Nat.le_of_eq g1.symm)
  have V_a1 := V_a1.ext E1
  have O_ := O_.ext E1
  have Z1 : n0 ≤ h1.size := Nat.le_trans Z0 E1.1
  have K1 := K0.ext E1
  have V_b1 : Bal Z h1 b1 .byte [(0 : Int32), (0 : Int32), (0 : Int32), (0 : Int32), (0 : Int32), (0 : Int32)] := Bal.new (ty := .byte) A1 (n := 6) (by decide) rfl
  refine Y.astore X1 hx (hb hby d25_16) rfl rfl (l' := #[.val (.ref a1), .val (.int (1 : Int32)), .val (.int (0 : Int32)), .val (.int (0 : Int32)), .val (.int (2 : Int32)), .val (.ref b1), .unset, .unset, .unset]) rfl ?_
  refine Y.iloadN X1 hx (hb hby d25_18) rfl ?_
  refine Y.iload X1 hx (hb hby d25_19) rfl ?_
  refine Y.icmpNo X1 hx (hb hby d25_21) rfl (tlt (show (0 : Int32) < (2 : Int32) from (by decide))).2.1 ?_
  refine Y.aloadN X1 hx (hb hby d25_24) rfl rfl ?_
  refine Y.iloadN X1 hx (hb hby d25_25) rfl ?_
  obtain ⟨_, _, ⟨T2, L2, k2, n2⟩, -, X2, ⟨Lc2, hQ2, l2, y2, z2⟩, st2⟩ := Jvm.LawKit.callS X1 hx (y := (⟨"java/lang/StringUTF16", "getChar", "([BI)C"⟩ : MethodName)) hown (mvT hZ (W 121 rfl)) (mvT hZ (W 116 rfl)) (mvT hZ (W 26 rfl)) (mvT hZ (W 117 rfl)) (by decide) (backOf (W := 0) (rmgc2_0 l Z a0 hw [] a1 (nar .byte ((c0 >>> ((0 : Int32) &&& 31)).toInt8.toInt32)) (nar .byte ((c0 >>> ((8 : Int32) &&& 31)).toInt8.toInt32)) (nar .byte ((c1 >>> ((0 : Int32) &&& 31)).toInt8.toInt32)) (nar .byte ((c1 >>> ((8 : Int32) &&& 31)).toInt8.toInt32)) h1 n0 Z1 V_a1 SAD SHI SLO O_) hZ (W 117 rfl) (W 26 rfl) (by decide) (by decide)) (g := (mkF m 26 #[.val (.ref a1), .val (.int (1 : Int32)), .val (.int (0 : Int32)), .val (.int (0 : Int32)), .val (.int (2 : Int32)), .val (.ref b1), .unset, .unset, .unset] [(.int (0 : Int32)), (.ref a1)])) rfl (by rw [hml]; rfl) (argsL := [(.ref a1), (.int (0 : Int32))]) (rest := []) (lenOf pd_5 rfl) rfl (by show 2 * 0 + _ ≤ _; exact Nat.le_of_eq rfl) (hb hby d25_26) (fun _ _ => ⟨rfl, e1, (by decide : 1 + 0 ≤ _), (by decide : 6 + 0 ≤ _)⟩)
  dsimp only [Pt.U, Pt.locs, Pt.cells, Pt.slots] at X2 l2 y2 z2 st2 hQ2
  subst l2 y2 z2
  obtain ⟨rfl, N2q, e2⟩ := hQ2
  have N2 := Fr.app N0 N2q
  refine Gl.pre (fun _ k => st2 _ k) ?_
  rw [own_gc c0 hr0.1 hr0.2]
  show Gl p.tables e below PP (T2.setTop (mkF m 29 #[.val (.ref a1), .val (.int (1 : Int32)), .val (.int (0 : Int32)), .val (.int (0 : Int32)), .val (.int (2 : Int32)), .val (.ref b1), .unset, .unset, .unset] [(.int c0)]))
  refine Y.istore X2 hx (hb hby d25_29) rfl (l' := #[.val (.ref a1), .val (.int (1 : Int32)), .val (.int (0 : Int32)), .val (.int (0 : Int32)), .val (.int (2 : Int32)), .val (.ref b1), .val (.int c0), .unset, .unset]) rfl ?_
  refine Y.iload X2 hx (hb hby d25_31) rfl ?_
  refine Y.sipush X2 hx (hb hby d25_33) ?_
  by_cases hc3 : c0 < (128 : Int32)
  refine Y.icmpYes X2 hx (pc0 := 36) (pc' := 42) rfl (hb hby d25_36) rfl (tlt hc3).1 (by decide) (by decide) ?_
  refine Y.aload X2 hx (hb hby d25_42) rfl rfl ?_
  refine Y.iloadN X2 hx (hb hby d25_44) rfl ?_
  refine Y.iinc X2 hx (hb hby d25_45) rfl (l' := #[.val (.ref a1), .val (.int (1 : Int32)), .val (.int (1 : Int32)), .val (.int (0 : Int32)), .val (.int (2 : Int32)), .val (.ref b1), .val (.int c0), .unset, .unset]) rfl ?_
  refine Y.iload X2 hx (hb hby d25_48) rfl ?_
  refine Y.i2b X2 hx (hb hby d25_50) rfl ?_
  obtain ⟨T4, h4, X4, e4, W4, V4, st4⟩ := own_stB X2 hx hZ e2 V_b1 (j := (0 : Int32)) (i := 0) (by decide) (by decide) (Nat.lt_of_lt_of_eq (by decide : 0 < 6) rfl) (g := (mkF m 51 #[.val (.ref a1), .val (.int (1 : Int32)), .val (.int (1 : Int32)), .val (.int (0 : Int32)), .val (.int (2 : Int32)), .val (.ref b1), .val (.int c0), .unset, .unset] [(.int (c0.toInt8.toInt32)), (.int (0 : Int32)), (.ref b1)])) rfl rfl (hb hby d25_51)
  refine Gl.pre (fun _ k => st4 _ k) ?_
  have V_a1 := V_a1.other W4 (own_ne_a1_b1)
  have O_ := O_.wr W4 g_b1
  have Z4 : n0 ≤ h4.size := by rw [W4.size]; exact Z1
  have N4 := Fr.snoc X4 N2 g_b1
  have K4 := K1.wr W4 (Or.inr sz_b1)
  have V_b1 : Bal Z h4 b1 .byte [(nar .byte (c0.toInt8.toInt32)), (0 : Int32), (0 : Int32), (0 : Int32), (0 : Int32), (0 : Int32)] := V4
  refine Y.iinc X4 hx (hb hby d25_52) rfl (l' := #[.val (.ref a1), .val (.int (1 : Int32)), .val (.int (1 : Int32)), .val (.int (1 : Int32)), .val (.int (2 : Int32)), .val (.ref b1), .val (.int c0), .unset, .unset]) rfl ?_
  refine Y.goto X4 hx (pc0 := 55) (pc' := 18) rfl (hb hby d25_55) (by decide) (by decide) ?_
  refine Y.iloadN X4 hx (hb hby d25_18) rfl ?_
  refine Y.iload X4 hx (hb hby d25_19) rfl ?_
  refine Y.icmpNo X4 hx (hb hby d25_21) rfl (tlt (show (1 : Int32) < (2 : Int32) from (by decide))).2.1 ?_
  refine Y.aloadN X4 hx (hb hby d25_24) rfl rfl ?_
  refine Y.iloadN X4 hx (hb hby d25_25) rfl ?_
  obtain ⟨_, _, ⟨T5, L5, k5, n5⟩, -, X5, ⟨Lc5, hQ5, l5, y5, z5⟩, st5⟩ := Jvm.LawKit.callS X4 hx (y := (⟨"java/lang/StringUTF16", "getChar", "([BI)C"⟩ : MethodName)) hown (mvT hZ (W 121 rfl)) (mvT hZ (W 116 rfl)) (mvT hZ (W 26 rfl)) (mvT hZ (W 117 rfl)) (by decide) (backOf (W := 0) (rmgc2_1 l Z a0 hw [] a1 (nar .byte ((c0 >>> ((0 : Int32) &&& 31)).toInt8.toInt32)) (nar .byte ((c0 >>> ((8 : Int32) &&& 31)).toInt8.toInt32)) (nar .byte ((c1 >>> ((0 : Int32) &&& 31)).toInt8.toInt32)) (nar .byte ((c1 >>> ((8 : Int32) &&& 31)).toInt8.toInt32)) h4 n0 Z4 V_a1 SAD SHI SLO O_) hZ (W 117 rfl) (W 26 rfl) (by decide) (by decide)) (g := (mkF m 26 #[.val (.ref a1), .val (.int (1 : Int32)), .val (.int (1 : Int32)), .val (.int (1 : Int32)), .val (.int (2 : Int32)), .val (.ref b1), .val (.int c0), .unset, .unset] [(.int (1 : Int32)), (.ref a1)])) rfl (by rw [hml]; rfl) (argsL := [(.ref a1), (.int (1 : Int32))]) (rest := []) (lenOf pd_5 rfl) rfl (by show 2 * 0 + _ ≤ _; exact Nat.le_of_eq rfl) (hb hby d25_26) (fun _ _ => ⟨rfl, e4, (by decide : 1 + 0 ≤ _), (by decide : 6 + 0 ≤ _)⟩)
  dsimp only [Pt.U, Pt.locs, Pt.cells, Pt.slots] at X5 l5 y5 z5 st5 hQ5
  subst l5 y5 z5
  obtain ⟨rfl, N5q, e5⟩ := hQ5
  have N5 := Fr.app N4 N5q
  refine Gl.pre (fun _ k => st5 _ k) ?_
  rw [own_gc c1 hr1.1 hr1.2]
  show Gl p.tables e below PP (T5.setTop (mkF m 29 #[.val (.ref a1), .val (.int (1 : Int32)), .val (.int (1 : Int32)), .val (.int (1 : Int32)), .val (.int (2 : Int32)), .val (.ref b1), .val (.int c0), .unset, .unset] [(.int c1)]))
  refine Y.istore X5 hx (hb hby d25_29) rfl (l' := #[.val (.ref a1), .val (.int (1 : Int32)), .val (.int (1 : Int32)), .val (.int (1 : Int32)), .val (.int (2 : Int32)), .val (.ref b1), .val (.int c1), .unset, .unset]) rfl ?_
  refine Y.iload X5 hx (hb hby d25_31) rfl ?_
  refine Y.sipush X5 hx (hb hby d25_33) ?_
  by_cases hc6 : c1 < (128 : Int32)
  refine Y.icmpYes X5 hx (pc0 := 36) (pc' := 42) rfl (hb hby d25_36) rfl (tlt hc6).1 (by decide) (by decide) ?_
  refine Y.aload X5 hx (hb hby d25_42) rfl rfl ?_
  refine Y.iloadN X5 hx (hb hby d25_44) rfl ?_
  refine Y.iinc X5 hx (hb hby d25_45) rfl (l' := #[.val (.ref a1), .val (.int (1 : Int32)), .val (.int (2 : Int32)), .val (.int (1 : Int32)), .val (.int (2 : Int32)), .val (.ref b1), .val (.int c1), .unset, .unset]) rfl ?_
  refine Y.iload X5 hx (hb hby d25_48) rfl ?_
  refine Y.i2b X5 hx (hb hby d25_50) rfl ?_
  obtain ⟨T7, h7, X7, e7, W7, V7, st7⟩ := own_stB X5 hx hZ e5 V_b1 (j := (1 : Int32)) (i := 1) (by decide) (by decide) (Nat.lt_of_lt_of_eq (by decide : 1 < 6) rfl) (g := (mkF m 51 #[.val (.ref a1), .val (.int (1 : Int32)), .val (.int (2 : Int32)), .val (.int (1 : Int32)), .val (.int (2 : Int32)), .val (.ref b1), .val (.int c1), .unset, .unset] [(.int (c1.toInt8.toInt32)), (.int (1 : Int32)), (.ref b1)])) rfl rfl (hb hby d25_51)
  refine Gl.pre (fun _ k => st7 _ k) ?_
  have V_a1 := V_a1.other W7 (own_ne_a1_b1)
  have O_ := O_.wr W7 g_b1
  have Z7 : n0 ≤ h7.size := by rw [W7.size]; exact Z4
  have N7 := Fr.snoc X7 N5 g_b1
  have K7 := K4.wr W7 (Or.inr sz_b1)
  have V_b1 : Bal Z h7 b1 .byte [(nar .byte (c0.toInt8.toInt32)), (nar .byte (c1.toInt8.toInt32)), (0 : Int32), (0 : Int32), (0 : Int32), (0 : Int32)] := V7
  refine Y.iinc X7 hx (hb hby d25_52) rfl (l' := #[.val (.ref a1), .val (.int (1 : Int32)), .val (.int (2 : Int32)), .val (.int (2 : Int32)), .val (.int (2 : Int32)), .val (.ref b1), .val (.int c1), .unset, .unset]) rfl ?_
  refine Y.goto X7 hx (pc0 := 55) (pc' := 18) rfl (hb hby d25_55) (by decide) (by decide) ?_
  refine Y.iloadN X7 hx (hb hby d25_18) rfl ?_
  refine Y.iload X7 hx (hb hby d25_19) rfl ?_
  refine Y.icmpYes X7 hx (pc0 := 21) (pc' := 58) rfl (hb hby d25_21) rfl (flt (show ¬ ((2 : Int32) < (2 : Int32)) from (by decide))).2.1 (by decide) (by decide) ?_
  refine Y.iloadN X7 hx (hb hby d25_58) rfl ?_
  refine Y.iload X7 hx (hb hby d25_59) rfl ?_
  refine Y.icmpYes X7 hx (pc0 := 61) (pc' := 355) rfl (hb hby d25_61) rfl (flt (show ¬ ((2 : Int32) < (2 : Int32)) from (by decide))).2.1 (by decide) (by decide) ?_
  refine Y.iloadN X7 hx (hb hby d25_355) rfl ?_
  refine Y.aload X7 hx (hb hby d25_356) rfl rfl ?_
  refine Gl.pre (fun _ k => own_len X7 hx hZ e7 V_b1 (v := (6 : Int32)) rfl (g := (mkF m 358 #[.val (.ref a1), .val (.int (1 : Int32)), .val (.int (2 : Int32)), .val (.int (2 : Int32)), .val (.int (2 : Int32)), .val (.ref b1), .val (.int c1), .unset, .unset] [(.ref b1), (.int (2 : Int32))])) rfl rfl (hb hby d25_358) _ k) ?_
  refine Y.icmpYes X7 hx (pc0 := 359) (pc' := 365) rfl (hb hby d25_359) rfl (feq (show ¬ ((2 : Int32) = (6 : Int32)) from (by decide))).2 (by decide) (by decide) ?_
  refine Y.aload X7 hx (hb hby d25_365) rfl rfl ?_
  refine Y.iloadN X7 hx (hb hby d25_367) rfl ?_
  obtain ⟨_, _, ⟨T8, L8, k8, n8⟩, -, X8, ⟨Lc8, hQ8, l8, y8, z8⟩, st8⟩ := Jvm.LawKit.callS X7 hx (y := (⟨"java/util/Arrays", "copyOf", "([BI)[B"⟩ : MethodName)) hown (mvT hZ (W 129 rfl)) (mvT hZ (W 130 rfl)) (mvT hZ (W 131 rfl)) (mvT hZ (W 132 rfl)) (by decide) (backOf (W := 0) (rmco6_2 l Z a0 hw [] b1 (nar .byte (c0.toInt8.toInt32)) (nar .byte (c1.toInt8.toInt32)) (0 : Int32) (0 : Int32) (0 : Int32) (0 : Int32) h7 n0 Z7 V_b1 (by intro x hx; simp only [List.mem_cons, List.not_mem_nil, or_false] at hx; rcases hx with rfl | rfl | rfl | rfl | rfl | rfl <;> first | exact fits_nar_byte _ | rfl)) hZ (W 132 rfl) (W 131 rfl) (by decide) (by decide)) (g := (mkF m 368 #[.val (.ref a1), .val (.int (1 : Int32)), .val (.int (2 : Int32)), .val (.int (2 : Int32)), .val (.int (2 : Int32)), .val (.ref b1), .val (.int c1), .unset, .unset] [(.int (2 : Int32)), (.ref b1)])) rfl (by rw [hml]; rfl) (argsL := [(.ref b1), (.int (2 : Int32))]) (rest := []) (lenOf pd_10 rfl) rfl (by show 2 * 0 + _ ≤ _; exact Nat.le_of_eq rfl) (hb hby d25_368) (fun _ _ => ⟨rfl, e7, (by decide : 1 + 1 ≤ _), (by decide : 6 + 2 ≤ _)⟩)
  dsimp only [Pt.U, Pt.locs, Pt.cells, Pt.slots] at X8 l8 y8 z8 st8 hQ8
  subst l8 y8 z8
  obtain ⟨bo8, rfl, N8q, hz8, K8, V8q⟩ := hQ8
  have N8 := Fr.app N7 N8q
  refine Gl.pre (fun _ k => st8 _ k) ?_
  have own_ne_a1_bo8 : a1 ≠ bo8 := Nat.ne_of_lt (Nat.lt_of_lt_of_le V_a1.lt hz8)
  have own_ne_bo8_a1 := own_ne_a1_bo8.symm
  have own_ne_b1_bo8 : b1 ≠ bo8 := Nat.ne_of_lt (Nat.lt_of_lt_of_le V_b1.lt hz8)
  have own_ne_bo8_b1 := own_ne_b1_bo8.symm
  have g_bo8 : n0 ≤ bo8 := Nat.le_trans Z7 hz8
  have sz_bo8 : h0.size ≤ bo8 := Nat.le_trans K7.1 hz8
  have V_a1 := V_a1.keep K8 nin0
  have O_ := O_.keep K8 all0
  have V_b1 := V_b1.keep K8 nin0
  have Z8 : n0 ≤ T8.heap.size := Nat.le_trans Z7 K8.1
  have K8k := K7.trans K8 all0
  have V_bo8 := V8q
  rw [hPP]
  refine own_finA (Q := (Que2 Z a1 c0 c1 h0 n0)) X8 hx hlk Bd.returns rfl rfl (hb hby d25_371) ?_ (by decide) (by decide)
  show Que2 Z a1 c0 c1 h0 n0 _ T8.heap _
  refine ⟨bo8, rfl, N8, sz_bo8, K8k, ?_⟩
  rw [own_ue2, own_u1a hc3, own_u1a hc6]; simp only [List.cons_append, List.nil_append]; exact V_bo8
  refine Y.icmpNo X5 hx (hb hby d25_36) rfl (flt hc6).1 ?_
  refine Y.goto X5 hx (pc0 := 39) (pc' := 58) rfl (hb hby d25_39) (by decide) (by decide) ?_
  refine Y.iloadN X5 hx (hb hby d25_58) rfl ?_
  refine Y.iload X5 hx (hb hby d25_59) rfl ?_
  refine Y.icmpNo X5 hx (hb hby d25_61) rfl (tlt (show (1 : Int32) < (2 : Int32) from (by decide))).2.1 ?_
  refine Y.aloadN X5 hx (hb hby d25_64) rfl rfl ?_
  refine Y.iloadN X5 hx (hb hby d25_65) rfl ?_
  refine Y.iinc X5 hx (hb hby d25_66) rfl (l' := #[.val (.ref a1), .val (.int (1 : Int32)), .val (.int (1 : Int32)), .val (.int (2 : Int32)), .val (.int (2 : Int32)), .val (.ref b1), .val (.int c1), .unset, .unset]) rfl ?_
  obtain ⟨_, _, ⟨T9, L9, k9, n9⟩, -, X9, ⟨Lc9, hQ9, l9, y9, z9⟩, st9⟩ := Jvm.LawKit.callS X5 hx (y := (⟨"java/lang/StringUTF16", "getChar", "([BI)C"⟩ : MethodName)) hown (mvT hZ (W 121 rfl)) (mvT hZ (W 116 rfl)) (mvT hZ (W 26 rfl)) (mvT hZ (W 117 rfl)) (by decide) (backOf (W := 0) (rmgc2_1 l Z a0 hw [] a1 (nar .byte ((c0 >>> ((0 : Int32) &&& 31)).toInt8.toInt32)) (nar .byte ((c0 >>> ((8 : Int32) &&& 31)).toInt8.toInt32)) (nar .byte ((c1 >>> ((0 : Int32) &&& 31)).toInt8.toInt32)) (nar .byte ((c1 >>> ((8 : Int32) &&& 31)).toInt8.toInt32)) h4 n0 Z4 V_a1 SAD SHI SLO O_) hZ (W 117 rfl) (W 26 rfl) (by decide) (by decide)) (g := (mkF m 69 #[.val (.ref a1), .val (.int (1 : Int32)), .val (.int (1 : Int32)), .val (.int (2 : Int32)), .val (.int (2 : Int32)), .val (.ref b1), .val (.int c1), .unset, .unset] [(.int (1 : Int32)), (.ref a1)])) rfl (by rw [hml]; rfl) (argsL := [(.ref a1), (.int (1 : Int32))]) (rest := []) (lenOf pd_5 rfl) rfl (by show 2 * 0 + _ ≤ _; exact Nat.le_of_eq rfl) (hb hby d25_69) (fun _ _ => ⟨rfl, e5, (by decide : 1 + 0 ≤ _), (by decide : 6 + 0 ≤ _)⟩)
  dsimp only [Pt.U, Pt.locs, Pt.cells, Pt.slots] at X9 l9 y9 z9 st9 hQ9
  subst l9 y9 z9
  obtain ⟨rfl, N9q, e9⟩ := hQ9
  have N9 := Fr.app N5 N9q
  refine Gl.pre (fun _ k => st9 _ k) ?_
  rw [own_gc c1 hr1.1 hr1.2]
  show Gl p.tables e below PP (T9.setTop (mkF m 72 #[.val (.ref a1), .val (.int (1 : Int32)), .val (.int (1 : Int32)), .val (.int (2 : Int32)), .val (.int (2 : Int32)), .val (.ref b1), .val (.int c1), .unset, .unset] [(.int c1)]))
  refine Y.istore X9 hx (hb hby d25_72) rfl (l' := #[.val (.ref a1), .val (.int (1 : Int32)), .val (.int (1 : Int32)), .val (.int (2 : Int32)), .val (.int (2 : Int32)), .val (.ref b1), .val (.int c1), .unset, .unset]) rfl ?_
  refine Y.iload X9 hx (hb hby d25_74) rfl ?_
  refine Y.sipush X9 hx (hb hby d25_76) ?_
  refine Y.icmpYes X9 hx (pc0 := 79) (pc' := 95) rfl (hb hby d25_79) rfl (flt (show ¬ (c1 < (128 : Int32)) from hc6)).2.1 (by decide) (by decide) ?_
  refine Y.iload X9 hx (hb hby d25_95) rfl ?_
  refine Y.sipush X9 hx (hb hby d25_97) ?_
  by_cases hc10 : c1 < (2048 : Int32)
  refine Y.icmpNo X9 hx (hb hby d25_100) rfl (tlt hc10).2.1 ?_
  refine Y.aload X9 hx (hb hby d25_103) rfl rfl ?_
  refine Y.iloadN X9 hx (hb hby d25_105) rfl ?_
  refine Y.iinc X9 hx (hb hby d25_106) rfl (l' := #[.val (.ref a1), .val (.int (1 : Int32)), .val (.int (2 : Int32)), .val (.int (2 : Int32)), .val (.int (2 : Int32)), .val (.ref b1), .val (.int c1), .unset, .unset]) rfl ?_
  refine Y.sipush X9 hx (hb hby d25_109) ?_
  refine Y.iload X9 hx (hb hby d25_112) rfl ?_
  refine Y.bipush X9 hx (hb hby d25_114) ?_
  refine Y.ishr X9 hx (hb hby d25_116) rfl ?_
  refine Y.ior X9 hx (hb hby d25_117) rfl ?_
  refine Y.i2b X9 hx (hb hby d25_118) rfl ?_
  obtain ⟨T11, h11, X11, e11, W11, V11, st11⟩ := own_stB X9 hx hZ e9 V_b1 (j := (1 : Int32)) (i := 1) (by decide) (by decide) (Nat.lt_of_lt_of_eq (by decide : 1 < 6) rfl) (g := (mkF m 119 #[.val (.ref a1), .val (.int (1 : Int32)), .val (.int (2 : Int32)), .val (.int (2 : Int32)), .val (.int (2 : Int32)), .val (.ref b1), .val (.int c1), .unset, .unset] [(.int (((192 : Int32) ||| (c1 >>> ((6 : Int32) &&& 31))).toInt8.toInt32)), (.int (1 : Int32)), (.ref b1)])) rfl rfl (hb hby d25_119)
  refine Gl.pre (fun _ k => st11 _ k) ?_
  have V_a1 := V_a1.other W11 (own_ne_a1_b1)
  have O_ := O_.wr W11 g_b1
  have Z11 : n0 ≤ h11.size := by rw [W11.size]; exact Z4
  have N11 := Fr.snoc X11 N9 g_b1
  have K11 := K4.wr W11 (Or.inr sz_b1)
  have V_b1 : Bal Z h11 b1 .byte [(nar .byte (c0.toInt8.toInt32)), (nar .byte (((192 : Int32) ||| (c1 >>> ((6 : Int32) &&& 31))).toInt8.toInt32)), (0 : Int32), (0 : Int32), (0 : Int32), (0 : Int32)] := V11
  refine Y.aload X11 hx (hb hby d25_120) rfl rfl ?_
  refine Y.iloadN X11 hx (hb hby d25_122) rfl ?_
  refine Y.iinc X11 hx (hb hby d25_123) rfl (l' := #[.val (.ref a1), .val (.int (1 : Int32)), .val (.int (3 : Int32)), .val (.int (2 : Int32)), .val (.int (2 : Int32)), .val (.ref b1), .val (.int c1), .unset, .unset]) rfl ?_
  refine Y.sipush X11 hx (hb hby d25_126) ?_
  refine Y.iload X11 hx (hb hby d25_129) rfl ?_
  refine Y.bipush X11 hx (hb hby d25_131) ?_
  refine Y.iand X11 hx (hb hby d25_133) rfl ?_
  refine Y.ior X11 hx (hb hby d25_134) rfl ?_
  refine Y.i2b X11 hx (hb hby d25_135) rfl ?_
  obtain ⟨T12, h12, X12, e12, W12, V12, st12⟩ := own_stB X11 hx hZ e11 V_b1 (j := (2 : Int32)) (i := 2) (by decide) (by decide) (Nat.lt_of_lt_of_eq (by decide : 2 < 6) rfl) (g := (mkF m 136 #[.val (.ref a1), .val (.int (1 : Int32)), .val (.int (3 : Int32)), .val (.int (2 : Int32)), .val (.int (2 : Int32)), .val (.ref b1), .val (.int c1), .unset, .unset] [(.int (((128 : Int32) ||| (c1 &&& (63 : Int32))).toInt8.toInt32)), (.int (2 : Int32)), (.ref b1)])) rfl rfl (hb hby d25_136)
  refine Gl.pre (fun _ k => st12 _ k) ?_
  have V_a1 := V_a1.other W12 (own_ne_a1_b1)
  have O_ := O_.wr W12 g_b1
  have Z12 : n0 ≤ h12.size := by rw [W12.size]; exact Z11
  have N12 := Fr.snoc X12 N11 g_b1
  have K12 := K11.wr W12 (Or.inr sz_b1)
  have V_b1 : Bal Z h12 b1 .byte [(nar .byte (c0.toInt8.toInt32)), (nar .byte (((192 : Int32) ||| (c1 >>> ((6 : Int32) &&& 31))).toInt8.toInt32)), (nar .byte (((128 : Int32) ||| (c1 &&& (63 : Int32))).toInt8.toInt32)), (0 : Int32), (0 : Int32), (0 : Int32)] := V12
  refine Y.goto X12 hx (pc0 := 137) (pc' := 352) rfl (hb hby d25_137) (by decide) (by decide) ?_
  refine Y.goto X12 hx (pc0 := 352) (pc' := 58) rfl (hb hby d25_352) (by decide) (by decide) ?_
  refine Y.iloadN X12 hx (hb hby d25_58) rfl ?_
  refine Y.iload X12 hx (hb hby d25_59) rfl ?_
  refine Y.icmpYes X12 hx (pc0 := 61) (pc' := 355) rfl (hb hby d25_61) rfl (flt (show ¬ ((2 : Int32) < (2 : Int32)) from (by decide))).2.1 (by decide) (by decide) ?_
  refine Y.iloadN X12 hx (hb hby d25_355) rfl ?_
  refine Y.aload X12 hx (hb hby d25_356) rfl rfl ?_
  refine Gl.pre (fun _ k => own_len X12 hx hZ e12 V_b1 (v := (6 : Int32)) rfl (g := (mkF m 358 #[.val (.ref a1), .val (.int (1 : Int32)), .val (.int (3 : Int32)), .val (.int (2 : Int32)), .val (.int (2 : Int32)), .val (.ref b1), .val (.int c1), .unset, .unset] [(.ref b1), (.int (3 : Int32))])) rfl rfl (hb hby d25_358) _ k) ?_
  refine Y.icmpYes X12 hx (pc0 := 359) (pc' := 365) rfl (hb hby d25_359) rfl (feq (show ¬ ((3 : Int32) = (6 : Int32)) from (by decide))).2 (by decide) (by decide) ?_
  refine Y.aload X12 hx (hb hby d25_365) rfl rfl ?_
  refine Y.iloadN X12 hx (hb hby d25_367) rfl ?_
  obtain ⟨_, _, ⟨T13, L13, k13, n13⟩, -, X13, ⟨Lc13, hQ13, l13, y13, z13⟩, st13⟩ := Jvm.LawKit.callS X12 hx (y := (⟨"java/util/Arrays", "copyOf", "([BI)[B"⟩ : MethodName)) hown (mvT hZ (W 129 rfl)) (mvT hZ (W 130 rfl)) (mvT hZ (W 131 rfl)) (mvT hZ (W 132 rfl)) (by decide) (backOf (W := 0) (rmco6_3 l Z a0 hw [] b1 (nar .byte (c0.toInt8.toInt32)) (nar .byte (((192 : Int32) ||| (c1 >>> ((6 : Int32) &&& 31))).toInt8.toInt32)) (nar .byte (((128 : Int32) ||| (c1 &&& (63 : Int32))).toInt8.toInt32)) (0 : Int32) (0 : Int32) (0 : Int32) h12 n0 Z12 V_b1 (by intro x hx; simp only [List.mem_cons, List.not_mem_nil, or_false] at hx; rcases hx with rfl | rfl | rfl | rfl | rfl | rfl <;> first | exact fits_nar_byte _ | rfl)) hZ (W 132 rfl) (W 131 rfl) (by decide) (by decide)) (g := (mkF m 368 #[.val (.ref a1), .val (.int (1 : Int32)), .val (.int (3 : Int32)), .val (.int (2 : Int32)), .val (.int (2 : Int32)), .val (.ref b1), .val (.int c1), .unset, .unset] [(.int (3 : Int32)), (.ref b1)])) rfl (by rw [hml]; rfl) (argsL := [(.ref b1), (.int (3 : Int32))]) (rest := []) (lenOf pd_10 rfl) rfl (by show 2 * 0 + _ ≤ _; exact Nat.le_of_eq rfl) (hb hby d25_368) (fun _ _ => ⟨rfl, e12, (by decide : 1 + 1 ≤ _), (by decide : 6 + 3 ≤ _)⟩)
  dsimp only [Pt.U, Pt.locs, Pt.cells, Pt.slots] at X13 l13 y13 z13 st13 hQ13
  subst l13 y13 z13
  obtain ⟨bo13, rfl, N13q, hz13, K13, V13q⟩ := hQ13
  have N13 := Fr.app N12 N13q
  refine Gl.pre (fun _ k => st13 _ k) ?_
  have own_ne_a1_bo13 : a1 ≠ bo13 := Nat.ne_of_lt (Nat.lt_of_lt_of_le V_a1.lt hz13)
  have own_ne_bo13_a1 := own_ne_a1_bo13.symm
  have own_ne_b1_bo13 : b1 ≠ bo13 := Nat.ne_of_lt (Nat.lt_of_lt_of_le V_b1.lt hz13)
  have own_ne_bo13_b1 := own_ne_b1_bo13.symm
  have g_bo13 : n0 ≤ bo13 := Nat.le_trans Z12 hz13
  have sz_bo13 : h0.size ≤ bo13 := Nat.le_trans K12.1 hz13
  have V_a1 := V_a1.keep K13 nin0
  have O_ := O_.keep K13 all0
  have V_b1 := V_b1.keep K13 nin0
  have Z13 : n0 ≤ T13.heap.size := Nat.le_trans Z12 K13.1
  have K13k := K12.trans K13 all0
  have V_bo13 := V13q
  rw [hPP]
  refine own_finA (Q := (Que2 Z a1 c0 c1 h0 n0)) X13 hx hlk Bd.returns rfl rfl (hb hby d25_371) ?_ (by decide) (by decide)
  show Que2 Z a1 c0 c1 h0 n0 _ T13.heap _
  refine ⟨bo13, rfl, N13, sz_bo13, K13k, ?_⟩
  rw [own_ue2, own_u1a hc3, own_u1b hc6 hc10]; simp only [List.cons_append, List.nil_append]; exact V_bo13
  refine Y.icmpYes X9 hx (pc0 := 100) (pc' := 140) rfl (hb hby d25_100) rfl (flt hc10).2.1 (by decide) (by decide) ?_
  refine Y.iload X9 hx (hb hby d25_140) rfl ?_
  obtain ⟨_, _, ⟨T14, L14, k14, n14⟩, -, X14, ⟨Lc14, hQ14, l14, y14, z14⟩, st14⟩ := Jvm.LawKit.callS X9 hx (y := (⟨"java/lang/Character", "isSurrogate", "(C)Z"⟩ : MethodName)) hown (mvT hZ (W 122 rfl)) (mvT hZ (W 123 rfl)) (mvT hZ (W 124 rfl)) (mvT hZ (W 125 rfl)) (by decide) (backOf (W := 0) (rmiss l Z a0 hw [] c1 h4 n0 Z4 hn1) hZ (W 125 rfl) (W 124 rfl) (by decide) (by decide)) (g := (mkF m 142 #[.val (.ref a1), .val (.int (1 : Int32)), .val (.int (1 : Int32)), .val (.int (2 : Int32)), .val (.int (2 : Int32)), .val (.ref b1), .val (.int c1), .unset, .unset] [(.int c1)])) rfl (by rw [hml]; rfl) (argsL := [(.int c1)]) (rest := []) (lenOf pd_11 rfl) rfl (by show 2 * 0 + _ ≤ _; exact Nat.le_of_eq rfl) (hb hby d25_142) (fun _ _ => ⟨rfl, e9, (by decide : 1 + 0 ≤ _), (by decide : 6 + 0 ≤ _)⟩)
  dsimp only [Pt.U, Pt.locs, Pt.cells, Pt.slots] at X14 l14 y14 z14 st14 hQ14
  subst l14 y14 z14
  obtain ⟨rfl, N14q, e14⟩ := hQ14
  have N14 := Fr.app N9 N14q
  refine Gl.pre (fun _ k => st14 _ k) ?_
  refine Y.ifYes X14 hx (pc0 := 145) (pc' := 298) rfl (hb hby d25_145) rfl ((if0 _ _).trans (teq (show (0 : Int32) = (0 : Int32) from (by decide))).1) (by decide) (by decide) ?_
  refine Y.aload X14 hx (hb hby d25_298) rfl rfl ?_
  refine Y.iloadN X14 hx (hb hby d25_300) rfl ?_
  refine Y.iinc X14 hx (hb hby d25_301) rfl (l' := #[.val (.ref a1), .val (.int (1 : Int32)), .val (.int (2 : Int32)), .val (.int (2 : Int32)), .val (.int (2 : Int32)), .val (.ref b1), .val (.int c1), .unset, .unset]) rfl ?_
  refine Y.sipush X14 hx (hb hby d25_304) ?_
  refine Y.iload X14 hx (hb hby d25_307) rfl ?_
  refine Y.bipush X14 hx (hb hby d25_309) ?_
  refine Y.ishr X14 hx (hb hby d25_311) rfl ?_
  refine Y.ior X14 hx (hb hby d25_312) rfl ?_
  refine Y.i2b X14 hx (hb hby d25_313) rfl ?_
  obtain ⟨T15, h15, X15, e15, W15, V15, st15⟩ := own_stB X14 hx hZ e14 V_b1 (j := (1 : Int32)) (i := 1) (by decide) (by decide) (Nat.lt_of_lt_of_eq (by decide : 1 < 6) rfl) (g := (mkF m 314 #[.val (.ref a1), .val (.int (1 : Int32)), .val (.int (2 : Int32)), .val (.int (2 : Int32)), .val (.int (2 : Int32)), .val (.ref b1), .val (.int c1), .unset, .unset] [(.int (((224 : Int32) ||| (c1 >>> ((12 : Int32) &&& 31))).toInt8.toInt32)), (.int (1 : Int32)), (.ref b1)])) rfl rfl (hb hby d25_314)
  refine Gl.pre (fun _ k => st15 _ k) ?_
  have V_a1 := V_a1.other W15 (own_ne_a1_b1)
  have O_ := O_.wr W15 g_b1
  have Z15 : n0 ≤ h15.size := by rw [W15.size]; exact Z4
  have N15 := Fr.snoc X15 N14 g_b1
  have K15 := K4.wr W15 (Or.inr sz_b1)
  have V_b1 : Bal Z h15 b1 .byte [(nar .byte (c0.toInt8.toInt32)), (nar .byte (((224 : Int32) ||| (c1 >>> ((12 : Int32) &&& 31))).toInt8.toInt32)), (0 : Int32), (0 : Int32), (0 : Int32), (0 : Int32)] := V15
  refine Y.aload X15 hx (hb hby d25_315) rfl rfl ?_
  refine Y.iloadN X15 hx (hb hby d25_317) rfl ?_
  refine Y.iinc X15 hx (hb hby d25_318) rfl (l' := #[.val (.ref a1), .val (.int (1 : Int32)), .val (.int (3 : Int32)), .val (.int (2 : Int32)), .val (.int (2 : Int32)), .val (.ref b1), .val (.int c1), .unset, .unset]) rfl ?_
  refine Y.sipush X15 hx (hb hby d25_321) ?_
  refine Y.iload X15 hx (hb hby d25_324) rfl ?_
  refine Y.bipush X15 hx (hb hby d25_326) ?_
  refine Y.ishr X15 hx (hb hby d25_328) rfl ?_
  refine Y.bipush X15 hx (hb hby d25_329) ?_
  refine Y.iand X15 hx (hb hby d25_331) rfl ?_
  refine Y.ior X15 hx (hb hby d25_332) rfl ?_
  refine Y.i2b X15 hx (hb hby d25_333) rfl ?_
  obtain ⟨T16, h16, X16, e16, W16, V16, st16⟩ := own_stB X15 hx hZ e15 V_b1 (j := (2 : Int32)) (i := 2) (by decide) (by decide) (Nat.lt_of_lt_of_eq (by decide : 2 < 6) rfl) (g := (mkF m 334 #[.val (.ref a1), .val (.int (1 : Int32)), .val (.int (3 : Int32)), .val (.int (2 : Int32)), .val (.int (2 : Int32)), .val (.ref b1), .val (.int c1), .unset, .unset] [(.int (((128 : Int32) ||| ((c1 >>> ((6 : Int32) &&& 31)) &&& (63 : Int32))).toInt8.toInt32)), (.int (2 : Int32)), (.ref b1)])) rfl rfl (hb hby d25_334)
  refine Gl.pre (fun _ k => st16 _ k) ?_
  have V_a1 := V_a1.other W16 (own_ne_a1_b1)
  have O_ := O_.wr W16 g_b1
  have Z16 : n0 ≤ h16.size := by rw [W16.size]; exact Z15
  have N16 := Fr.snoc X16 N15 g_b1
  have K16 := K15.wr W16 (Or.inr sz_b1)
  have V_b1 : Bal Z h16 b1 .byte [(nar .byte (c0.toInt8.toInt32)), (nar .byte (((224 : Int32) ||| (c1 >>> ((12 : Int32) &&& 31))).toInt8.toInt32)), (nar .byte (((128 : Int32) ||| ((c1 >>> ((6 : Int32) &&& 31)) &&& (63 : Int32))).toInt8.toInt32)), (0 : Int32), (0 : Int32), (0 : Int32)] := V16
  refine Y.aload X16 hx (hb hby d25_335) rfl rfl ?_
  refine Y.iloadN X16 hx (hb hby d25_337) rfl ?_
  refine Y.iinc X16 hx (hb hby d25_338) rfl (l' := #[.val (.ref a1), .val (.int (1 : Int32)), .val (.int (4 : Int32)), .val (.int (2 : Int32)), .val (.int (2 : Int32)), .val (.ref b1), .val (.int c1), .unset, .unset]) rfl ?_
  refine Y.sipush X16 hx (hb hby d25_341) ?_
  refine Y.iload X16 hx (hb hby d25_344) rfl ?_
  refine Y.bipush X16 hx (hb hby d25_346) ?_
  refine Y.iand X16 hx (hb hby d25_348) rfl ?_
  refine Y.ior X16 hx (hb hby d25_349) rfl ?_
  refine Y.i2b X16 hx (hb hby d25_350) rfl ?_
  obtain ⟨T17, h17, X17, e17, W17, V17, st17⟩ := own_stB X16 hx hZ e16 V_b1 (j := (3 : Int32)) (i := 3) (by decide) (by decide) (Nat.lt_of_lt_of_eq (by decide : 3 < 6) rfl) (g := (mkF m 351 #[.val (.ref a1), .val (.int (1 : Int32)), .val (.int (4 : Int32)), .val (.int (2 : Int32)), .val (.int (2 : Int32)), .val (.ref b1), .val (.int c1), .unset, .unset] [(.int (((128 : Int32) ||| (c1 &&& (63 : Int32))).toInt8.toInt32)), (.int (3 : Int32)), (.ref b1)])) rfl rfl (hb hby d25_351)
  refine Gl.pre (fun _ k => st17 _ k) ?_
  have V_a1 := V_a1.other W17 (own_ne_a1_b1)
  have O_ := O_.wr W17 g_b1
  have Z17 : n0 ≤ h17.size := by rw [W17.size]; exact Z16
  have N17 := Fr.snoc X17 N16 g_b1
  have K17 := K16.wr W17 (Or.inr sz_b1)
  have V_b1 : Bal Z h17 b1 .byte [(nar .byte (c0.toInt8.toInt32)), (nar .byte (((224 : Int32) ||| (c1 >>> ((12 : Int32) &&& 31))).toInt8.toInt32)), (nar .byte (((128 : Int32) ||| ((c1 >>> ((6 : Int32) &&& 31)) &&& (63 : Int32))).toInt8.toInt32)), (nar .byte (((128 : Int32) ||| (c1 &&& (63 : Int32))).toInt8.toInt32)), (0 : Int32), (0 : Int32)] := V17
  refine Y.goto X17 hx (pc0 := 352) (pc' := 58) rfl (hb hby d25_352) (by decide) (by decide) ?_
  refine Y.iloadN X17 hx (hb hby d25_58) rfl ?_
  refine Y.iload X17 hx (hb hby d25_59) rfl ?_
  refine Y.icmpYes X17 hx (pc0 := 61) (pc' := 355) rfl (hb hby d25_61) rfl (flt (show ¬ ((2 : Int32) < (2 : Int32)) from (by decide))).2.1 (by decide) (by decide) ?_
  refine Y.iloadN X17 hx (hb hby d25_355) rfl ?_
  refine Y.aload X17 hx (hb hby d25_356) rfl rfl ?_
  refine Gl.pre (fun _ k => own_len X17 hx hZ e17 V_b1 (v := (6 : Int32)) rfl (g := (mkF m 358 #[.val (.ref a1), .val (.int (1 : Int32)), .val (.int (4 : Int32)), .val (.int (2 : Int32)), .val (.int (2 : Int32)), .val (.ref b1), .val (.int c1), .unset, .unset] [(.ref b1), (.int (4 : Int32))])) rfl rfl (hb hby d25_358) _ k) ?_
  refine Y.icmpYes X17 hx (pc0 := 359) (pc' := 365) rfl (hb hby d25_359) rfl (feq (show ¬ ((4 : Int32) = (6 : Int32)) from (by decide))).2 (by decide) (by decide) ?_
  refine Y.aload X17 hx (hb hby d25_365) rfl rfl ?_
  refine Y.iloadN X17 hx (hb hby d25_367) rfl ?_
  obtain ⟨_, _, ⟨T18, L18, k18, n18⟩, -, X18, ⟨Lc18, hQ18, l18, y18, z18⟩, st18⟩ := Jvm.LawKit.callS X17 hx (y := (⟨"java/util/Arrays", "copyOf", "([BI)[B"⟩ : MethodName)) hown (mvT hZ (W 129 rfl)) (mvT hZ (W 130 rfl)) (mvT hZ (W 131 rfl)) (mvT hZ (W 132 rfl)) (by decide) (backOf (W := 0) (rmco6_4 l Z a0 hw [] b1 (nar .byte (c0.toInt8.toInt32)) (nar .byte (((224 : Int32) ||| (c1 >>> ((12 : Int32) &&& 31))).toInt8.toInt32)) (nar .byte (((128 : Int32) ||| ((c1 >>> ((6 : Int32) &&& 31)) &&& (63 : Int32))).toInt8.toInt32)) (nar .byte (((128 : Int32) ||| (c1 &&& (63 : Int32))).toInt8.toInt32)) (0 : Int32) (0 : Int32) h17 n0 Z17 V_b1 (by intro x hx; simp only [List.mem_cons, List.not_mem_nil, or_false] at hx; rcases hx with rfl | rfl | rfl | rfl | rfl | rfl <;> first | exact fits_nar_byte _ | rfl)) hZ (W 132 rfl) (W 131 rfl) (by decide) (by decide)) (g := (mkF m 368 #[.val (.ref a1), .val (.int (1 : Int32)), .val (.int (4 : Int32)), .val (.int (2 : Int32)), .val (.int (2 : Int32)), .val (.ref b1), .val (.int c1), .unset, .unset] [(.int (4 : Int32)), (.ref b1)])) rfl (by rw [hml]; rfl) (argsL := [(.ref b1), (.int (4 : Int32))]) (rest := []) (lenOf pd_10 rfl) rfl (by show 2 * 0 + _ ≤ _; exact Nat.le_of_eq rfl) (hb hby d25_368) (fun _ _ => ⟨rfl, e17, (by decide : 1 + 1 ≤ _), (by decide : 6 + 4 ≤ _)⟩)
  dsimp only [Pt.U, Pt.locs, Pt.cells, Pt.slots] at X18 l18 y18 z18 st18 hQ18
  subst l18 y18 z18
  obtain ⟨bo18, rfl, N18q, hz18, K18, V18q⟩ := hQ18
  have N18 := Fr.app N17 N18q
  refine Gl.pre (fun _ k => st18 _ k) ?_
  have own_ne_a1_bo18 : a1 ≠ bo18 := Nat.ne_of_lt (Nat.lt_of_lt_of_le V_a1.lt hz18)
  have own_ne_bo18_a1 := own_ne_a1_bo18.symm
  have own_ne_b1_bo18 : b1 ≠ bo18 := Nat.ne_of_lt (Nat.lt_of_lt_of_le V_b1.lt hz18)
  have own_ne_bo18_b1 := own_ne_b1_bo18.symm
  have g_bo18 : n0 ≤ bo18 := Nat.le_trans Z17 hz18
  have sz_bo18 : h0.size ≤ bo18 := Nat.le_trans K17.1 hz18
  have V_a1 := V_a1.keep K18 nin0
  have O_ := O_.keep K18 all0
  have V_b1 := V_b1.keep K18 nin0
  have Z18 : n0 ≤ T18.heap.size := Nat.le_trans Z17 K18.1
  have K18k := K17.trans K18 all0
  have V_bo18 := V18q
  rw [hPP]
  refine own_finA (Q := (Que2 Z a1 c0 c1 h0 n0)) X18 hx hlk Bd.returns rfl rfl (hb hby d25_371) ?_ (by decide) (by decide)
  show Que2 Z a1 c0 c1 h0 n0 _ T18.heap _
  refine ⟨bo18, rfl, N18, sz_bo18, K18k, ?_⟩
  rw [own_ue2, own_u1a hc3, own_u1c hc6 hc10]; simp only [List.cons_append, List.nil_append]; exact V_bo18
  refine Y.icmpNo X2 hx (hb hby d25_36) rfl (flt hc3).1 ?_
  refine Y.goto X2 hx (pc0 := 39) (pc' := 58) rfl (hb hby d25_39) (by decide) (by decide) ?_
  refine Y.iloadN X2 hx (hb hby d25_58) rfl ?_
  refine Y.iload X2 hx (hb hby d25_59) rfl ?_
  refine Y.icmpNo X2 hx (hb hby d25_61) rfl (tlt (show (0 : Int32) < (2 : Int32) from (by decide))).2.1 ?_
  refine Y.aloadN X2 hx (hb hby d25_64) rfl rfl ?_
  refine Y.iloadN X2 hx (hb hby d25_65) rfl ?_
  refine Y.iinc X2 hx (hb hby d25_66) rfl (l' := #[.val (.ref a1), .val (.int (1 : Int32)), .val (.int (0 : Int32)), .val (.int (1 : Int32)), .val (.int (2 : Int32)), .val (.ref b1), .val (.int c0), .unset, .unset]) rfl ?_
  obtain ⟨_, _, ⟨T19, L19, k19, n19⟩, -, X19, ⟨Lc19, hQ19, l19, y19, z19⟩, st19⟩ := Jvm.LawKit.callS X2 hx (y := (⟨"java/lang/StringUTF16", "getChar", "([BI)C"⟩ : MethodName)) hown (mvT hZ (W 121 rfl)) (mvT hZ (W 116 rfl)) (mvT hZ (W 26 rfl)) (mvT hZ (W 117 rfl)) (by decide) (backOf (W := 0) (rmgc2_0 l Z a0 hw [] a1 (nar .byte ((c0 >>> ((0 : Int32) &&& 31)).toInt8.toInt32)) (nar .byte ((c0 >>> ((8 : Int32) &&& 31)).toInt8.toInt32)) (nar .byte ((c1 >>> ((0 : Int32) &&& 31)).toInt8.toInt32)) (nar .byte ((c1 >>> ((8 : Int32) &&& 31)).toInt8.toInt32)) h1 n0 Z1 V_a1 SAD SHI SLO O_) hZ (W 117 rfl) (W 26 rfl) (by decide) (by decide)) (g := (mkF m 69 #[.val (.ref a1), .val (.int (1 : Int32)), .val (.int (0 : Int32)), .val (.int (1 : Int32)), .val (.int (2 : Int32)), .val (.ref b1), .val (.int c0), .unset, .unset] [(.int (0 : Int32)), (.ref a1)])) rfl (by rw [hml]; rfl) (argsL := [(.ref a1), (.int (0 : Int32))]) (rest := []) (lenOf pd_5 rfl) rfl (by show 2 * 0 + _ ≤ _; exact Nat.le_of_eq rfl) (hb hby d25_69) (fun _ _ => ⟨rfl, e2, (by decide : 1 + 0 ≤ _), (by decide : 6 + 0 ≤ _)⟩)
  dsimp only [Pt.U, Pt.locs, Pt.cells, Pt.slots] at X19 l19 y19 z19 st19 hQ19
  subst l19 y19 z19
  obtain ⟨rfl, N19q, e19⟩ := hQ19
  have N19 := Fr.app N2 N19q
  refine Gl.pre (fun _ k => st19 _ k) ?_
  rw [own_gc c0 hr0.1 hr0.2]
  show Gl p.tables e below PP (T19.setTop (mkF m 72 #[.val (.ref a1), .val (.int (1 : Int32)), .val (.int (0 : Int32)), .val (.int (1 : Int32)), .val (.int (2 : Int32)), .val (.ref b1), .val (.int c0), .unset, .unset] [(.int c0)]))
  refine Y.istore X19 hx (hb hby d25_72) rfl (l' := #[.val (.ref a1), .val (.int (1 : Int32)), .val (.int (0 : Int32)), .val (.int (1 : Int32)), .val (.int (2 : Int32)), .val (.ref b1), .val (.int c0), .unset, .unset]) rfl ?_
  refine Y.iload X19 hx (hb hby d25_74) rfl ?_
  refine Y.sipush X19 hx (hb hby d25_76) ?_
  refine Y.icmpYes X19 hx (pc0 := 79) (pc' := 95) rfl (hb hby d25_79) rfl (flt (show ¬ (c0 < (128 : Int32)) from hc3)).2.1 (by decide) (by decide) ?_
  refine Y.iload X19 hx (hb hby d25_95) rfl ?_
  refine Y.sipush X19 hx (hb hby d25_97) ?_
  by_cases hc20 : c0 < (2048 : Int32)
  refine Y.icmpNo X19 hx (hb hby d25_100) rfl (tlt hc20).2.1 ?_
  refine Y.aload X19 hx (hb hby d25_103) rfl rfl ?_
  refine Y.iloadN X19 hx (hb hby d25_105) rfl ?_
  refine Y.iinc X19 hx (hb hby d25_106) rfl (l' := #[.val (.ref a1), .val (.int (1 : Int32)), .val (.int (1 : Int32)), .val (.int (1 : Int32)), .val (.int (2 : Int32)), .val (.ref b1), .val (.int c0), .unset, .unset]) rfl ?_
  refine Y.sipush X19 hx (hb hby d25_109) ?_
  refine Y.iload X19 hx (hb hby d25_112) rfl ?_
  refine Y.bipush X19 hx (hb hby d25_114) ?_
  refine Y.ishr X19 hx (hb hby d25_116) rfl ?_
  refine Y.ior X19 hx (hb hby d25_117) rfl ?_
  refine Y.i2b X19 hx (hb hby d25_118) rfl ?_
  obtain ⟨T21, h21, X21, e21, W21, V21, st21⟩ := own_stB X19 hx hZ e19 V_b1 (j := (0 : Int32)) (i := 0) (by decide) (by decide) (Nat.lt_of_lt_of_eq (by decide : 0 < 6) rfl) (g := (mkF m 119 #[.val (.ref a1), .val (.int (1 : Int32)), .val (.int (1 : Int32)), .val (.int (1 : Int32)), .val (.int (2 : Int32)), .val (.ref b1), .val (.int c0), .unset, .unset] [(.int (((192 : Int32) ||| (c0 >>> ((6 : Int32) &&& 31))).toInt8.toInt32)), (.int (0 : Int32)), (.ref b1)])) rfl rfl (hb hby d25_119)
  refine Gl.pre (fun _ k => st21 _ k) ?_
  have V_a1 := V_a1.other W21 (own_ne_a1_b1)
  have O_ := O_.wr W21 g_b1
  have Z21 : n0 ≤ h21.size := by rw [W21.size]; exact Z1
  have N21 := Fr.snoc X21 N19 g_b1
  have K21 := K1.wr W21 (Or.inr sz_b1)
  have V_b1 : Bal Z h21 b1 .byte [(nar .byte (((192 : Int32) ||| (c0 >>> ((6 : Int32) &&& 31))).toInt8.toInt32)), (0 : Int32), (0 : Int32), (0 : Int32), (0 : Int32), (0 : Int32)] := V21
  refine Y.aload X21 hx (hb hby d25_120) rfl rfl ?_
  refine Y.iloadN X21 hx (hb hby d25_122) rfl ?_
  refine Y.iinc X21 hx (hb hby d25_123) rfl (l' := #[.val (.ref a1), .val (.int (1 : Int32)), .val (.int (2 : Int32)), .val (.int (1 : Int32)), .val (.int (2 : Int32)), .val (.ref b1), .val (.int c0), .unset, .unset]) rfl ?_
  refine Y.sipush X21 hx (hb hby d25_126) ?_
  refine Y.iload X21 hx (hb hby d25_129) rfl ?_
  refine Y.bipush X21 hx (hb hby d25_131) ?_
  refine Y.iand X21 hx (hb hby d25_133) rfl ?_
  refine Y.ior X21 hx (hb hby d25_134) rfl ?_
  refine Y.i2b X21 hx (hb hby d25_135) rfl ?_
  obtain ⟨T22, h22, X22, e22, W22, V22, st22⟩ := own_stB X21 hx hZ e21 V_b1 (j := (1 : Int32)) (i := 1) (by decide) (by decide) (Nat.lt_of_lt_of_eq (by decide : 1 < 6) rfl) (g := (mkF m 136 #[.val (.ref a1), .val (.int (1 : Int32)), .val (.int (2 : Int32)), .val (.int (1 : Int32)), .val (.int (2 : Int32)), .val (.ref b1), .val (.int c0), .unset, .unset] [(.int (((128 : Int32) ||| (c0 &&& (63 : Int32))).toInt8.toInt32)), (.int (1 : Int32)), (.ref b1)])) rfl rfl (hb hby d25_136)
  refine Gl.pre (fun _ k => st22 _ k) ?_
  have V_a1 := V_a1.other W22 (own_ne_a1_b1)
  have O_ := O_.wr W22 g_b1
  have Z22 : n0 ≤ h22.size := by rw [W22.size]; exact Z21
  have N22 := Fr.snoc X22 N21 g_b1
  have K22 := K21.wr W22 (Or.inr sz_b1)
  have V_b1 : Bal Z h22 b1 .byte [(nar .byte (((192 : Int32) ||| (c0 >>> ((6 : Int32) &&& 31))).toInt8.toInt32)), (nar .byte (((128 : Int32) ||| (c0 &&& (63 : Int32))).toInt8.toInt32)), (0 : Int32), (0 : Int32), (0 : Int32), (0 : Int32)] := V22
  refine Y.goto X22 hx (pc0 := 137) (pc' := 352) rfl (hb hby d25_137) (by decide) (by decide) ?_
  refine Y.goto X22 hx (pc0 := 352) (pc' := 58) rfl (hb hby d25_352) (by decide) (by decide) ?_
  refine Y.iloadN X22 hx (hb hby d25_58) rfl ?_
  refine Y.iload X22 hx (hb hby d25_59) rfl ?_
  refine Y.icmpNo X22 hx (hb hby d25_61) rfl (tlt (show (1 : Int32) < (2 : Int32) from (by decide))).2.1 ?_
  refine Y.aloadN X22 hx (hb hby d25_64) rfl rfl ?_
  refine Y.iloadN X22 hx (hb hby d25_65) rfl ?_
  refine Y.iinc X22 hx (hb hby d25_66) rfl (l' := #[.val (.ref a1), .val (.int (1 : Int32)), .val (.int (2 : Int32)), .val (.int (2 : Int32)), .val (.int (2 : Int32)), .val (.ref b1), .val (.int c0), .unset, .unset]) rfl ?_
  obtain ⟨_, _, ⟨T23, L23, k23, n23⟩, -, X23, ⟨Lc23, hQ23, l23, y23, z23⟩, st23⟩ := Jvm.LawKit.callS X22 hx (y := (⟨"java/lang/StringUTF16", "getChar", "([BI)C"⟩ : MethodName)) hown (mvT hZ (W 121 rfl)) (mvT hZ (W 116 rfl)) (mvT hZ (W 26 rfl)) (mvT hZ (W 117 rfl)) (by decide) (backOf (W := 0) (rmgc2_1 l Z a0 hw [] a1 (nar .byte ((c0 >>> ((0 : Int32) &&& 31)).toInt8.toInt32)) (nar .byte ((c0 >>> ((8 : Int32) &&& 31)).toInt8.toInt32)) (nar .byte ((c1 >>> ((0 : Int32) &&& 31)).toInt8.toInt32)) (nar .byte ((c1 >>> ((8 : Int32) &&& 31)).toInt8.toInt32)) h22 n0 Z22 V_a1 SAD SHI SLO O_) hZ (W 117 rfl) (W 26 rfl) (by decide) (by decide)) (g := (mkF m 69 #[.val (.ref a1), .val (.int (1 : Int32)), .val (.int (2 : Int32)), .val (.int (2 : Int32)), .val (.int (2 : Int32)), .val (.ref b1), .val (.int c0), .unset, .unset] [(.int (1 : Int32)), (.ref a1)])) rfl (by rw [hml]; rfl) (argsL := [(.ref a1), (.int (1 : Int32))]) (rest := []) (lenOf pd_5 rfl) rfl (by show 2 * 0 + _ ≤ _; exact Nat.le_of_eq rfl) (hb hby d25_69) (fun _ _ => ⟨rfl, e22, (by decide : 1 + 0 ≤ _), (by decide : 6 + 0 ≤ _)⟩)
  dsimp only [Pt.U, Pt.locs, Pt.cells, Pt.slots] at X23 l23 y23 z23 st23 hQ23
  subst l23 y23 z23
  obtain ⟨rfl, N23q, e23⟩ := hQ23
  have N23 := Fr.app N22 N23q
  refine Gl.pre (fun _ k => st23 _ k) ?_
  rw [own_gc c1 hr1.1 hr1.2]
  show Gl p.tables e below PP (T23.setTop (mkF m 72 #[.val (.ref a1), .val (.int (1 : Int32)), .val (.int (2 : Int32)), .val (.int (2 : Int32)), .val (.int (2 : Int32)), .val (.ref b1), .val (.int c0), .unset, .unset] [(.int c1)]))
  refine Y.istore X23 hx (hb hby d25_72) rfl (l' := #[.val (.ref a1), .val (.int (1 : Int32)), .val (.int (2 : Int32)), .val (.int (2 : Int32)), .val (.int (2 : Int32)), .val (.ref b1), .val (.int c1), .unset, .unset]) rfl ?_
  refine Y.iload X23 hx (hb hby d25_74) rfl ?_
  refine Y.sipush X23 hx (hb hby d25_76) ?_
  by_cases hc24 : c1 < (128 : Int32)
  refine Y.icmpNo X23 hx (hb hby d25_79) rfl (tlt hc24).2.1 ?_
  refine Y.aload X23 hx (hb hby d25_82) rfl rfl ?_
  refine Y.iloadN X23 hx (hb hby d25_84) rfl ?_
  refine Y.iinc X23 hx (hb hby d25_85) rfl (l' := #[.val (.ref a1), .val (.int (1 : Int32)), .val (.int (3 : Int32)), .val (.int (2 : Int32)), .val (.int (2 : Int32)), .val (.ref b1), .val (.int c1), .unset, .unset]) rfl ?_
  refine Y.iload X23 hx (hb hby d25_88) rfl ?_
  refine Y.i2b X23 hx (hb hby d25_90) rfl ?_
  obtain ⟨T25, h25, X25, e25, W25, V25, st25⟩ := own_stB X23 hx hZ e23 V_b1 (j := (2 : Int32)) (i := 2) (by decide) (by decide) (Nat.lt_of_lt_of_eq (by decide : 2 < 6) rfl) (g := (mkF m 91 #[.val (.ref a1), .val (.int (1 : Int32)), .val (.int (3 : Int32)), .val (.int (2 : Int32)), .val (.int (2 : Int32)), .val (.ref b1), .val (.int c1), .unset, .unset] [(.int (c1.toInt8.toInt32)), (.int (2 : Int32)), (.ref b1)])) rfl rfl (hb hby d25_91)
  refine Gl.pre (fun _ k => st25 _ k) ?_
  have V_a1 := V_a1.other W25 (own_ne_a1_b1)
  have O_ := O_.wr W25 g_b1
  have Z25 : n0 ≤ h25.size := by rw [W25.size]; exact Z22
  have N25 := Fr.snoc X25 N23 g_b1
  have K25 := K22.wr W25 (Or.inr sz_b1)
  have V_b1 : Bal Z h25 b1 .byte [(nar .byte (((192 : Int32) ||| (c0 >>> ((6 : Int32) &&& 31))).toInt8.toInt32)), (nar .byte (((128 : Int32) ||| (c0 &&& (63 : Int32))).toInt8.toInt32)), (nar .byte (c1.toInt8.toInt32)), (0 : Int32), (0 : Int32), (0 : Int32)] := V25
  refine Y.goto X25 hx (pc0 := 92) (pc' := 352) rfl (hb hby d25_92) (by decide) (by decide) ?_
  refine Y.goto X25 hx (pc0 := 352) (pc' := 58) rfl (hb hby d25_352) (by decide) (by decide) ?_
  refine Y.iloadN X25 hx (hb hby d25_58) rfl ?_
  refine Y.iload X25 hx (hb hby d25_59) rfl ?_
  refine Y.icmpYes X25 hx (pc0 := 61) (pc' := 355) rfl (hb hby d25_61) rfl (flt (show ¬ ((2 : Int32) < (2 : Int32)) from (by decide))).2.1 (by decide) (by decide) ?_
  refine Y.iloadN X25 hx (hb hby d25_355) rfl ?_
  refine Y.aload X25 hx (hb hby d25_356) rfl rfl ?_
  refine Gl.pre (fun _ k => own_len X25 hx hZ e25 V_b1 (v := (6 : Int32)) rfl (g := (mkF m 358 #[.val (.ref a1), .val (.int (1 : Int32)), .val (.int (3 : Int32)), .val (.int (2 : Int32)), .val (.int (2 : Int32)), .val (.ref b1), .val (.int c1), .unset, .unset] [(.ref b1), (.int (3 : Int32))])) rfl rfl (hb hby d25_358) _ k) ?_
  refine Y.icmpYes X25 hx (pc0 := 359) (pc' := 365) rfl (hb hby d25_359) rfl (feq (show ¬ ((3 : Int32) = (6 : Int32)) from (by decide))).2 (by decide) (by decide) ?_
  refine Y.aload X25 hx (hb hby d25_365) rfl rfl ?_
  refine Y.iloadN X25 hx (hb hby d25_367) rfl ?_
  obtain ⟨_, _, ⟨T26, L26, k26, n26⟩, -, X26, ⟨Lc26, hQ26, l26, y26, z26⟩, st26⟩ := Jvm.LawKit.callS X25 hx (y := (⟨"java/util/Arrays", "copyOf", "([BI)[B"⟩ : MethodName)) hown (mvT hZ (W 129 rfl)) (mvT hZ (W 130 rfl)) (mvT hZ (W 131 rfl)) (mvT hZ (W 132 rfl)) (by decide) (backOf (W := 0) (rmco6_3 l Z a0 hw [] b1 (nar .byte (((192 : Int32) ||| (c0 >>> ((6 : Int32) &&& 31))).toInt8.toInt32)) (nar .byte (((128 : Int32) ||| (c0 &&& (63 : Int32))).toInt8.toInt32)) (nar .byte (c1.toInt8.toInt32)) (0 : Int32) (0 : Int32) (0 : Int32) h25 n0 Z25 V_b1 (by intro x hx; simp only [List.mem_cons, List.not_mem_nil, or_false] at hx; rcases hx with rfl | rfl | rfl | rfl | rfl | rfl <;> first | exact fits_nar_byte _ | rfl)) hZ (W 132 rfl) (W 131 rfl) (by decide) (by decide)) (g := (mkF m 368 #[.val (.ref a1), .val (.int (1 : Int32)), .val (.int (3 : Int32)), .val (.int (2 : Int32)), .val (.int (2 : Int32)), .val (.ref b1), .val (.int c1), .unset, .unset] [(.int (3 : Int32)), (.ref b1)])) rfl (by rw [hml]; rfl) (argsL := [(.ref b1), (.int (3 : Int32))]) (rest := []) (lenOf pd_10 rfl) rfl (by show 2 * 0 + _ ≤ _; exact Nat.le_of_eq rfl) (hb hby d25_368) (fun _ _ => ⟨rfl, e25, (by decide : 1 + 1 ≤ _), (by decide : 6 + 3 ≤ _)⟩)
  dsimp only [Pt.U, Pt.locs, Pt.cells, Pt.slots] at X26 l26 y26 z26 st26 hQ26
  subst l26 y26 z26
  obtain ⟨bo26, rfl, N26q, hz26, K26, V26q⟩ := hQ26
  have N26 := Fr.app N25 N26q
  refine Gl.pre (fun _ k => st26 _ k) ?_
  have own_ne_a1_bo26 : a1 ≠ bo26 := Nat.ne_of_lt (Nat.lt_of_lt_of_le V_a1.lt hz26)
  have own_ne_bo26_a1 := own_ne_a1_bo26.symm
  have own_ne_b1_bo26 : b1 ≠ bo26 := Nat.ne_of_lt (Nat.lt_of_lt_of_le V_b1.lt hz26)
  have own_ne_bo26_b1 := own_ne_b1_bo26.symm
  have g_bo26 : n0 ≤ bo26 := Nat.le_trans Z25 hz26
  have sz_bo26 : h0.size ≤ bo26 := Nat.le_trans K25.1 hz26
  have V_a1 := V_a1.keep K26 nin0
  have O_ := O_.keep K26 all0
  have V_b1 := V_b1.keep K26 nin0
  have Z26 : n0 ≤ T26.heap.size := Nat.le_trans Z25 K26.1
  have K26k := K25.trans K26 all0
  have V_bo26 := V26q
  rw [hPP]
  refine own_finA (Q := (Que2 Z a1 c0 c1 h0 n0)) X26 hx hlk Bd.returns rfl rfl (hb hby d25_371) ?_ (by decide) (by decide)
  show Que2 Z a1 c0 c1 h0 n0 _ T26.heap _
  refine ⟨bo26, rfl, N26, sz_bo26, K26k, ?_⟩
  rw [own_ue2, own_u1b hc3 hc20, own_u1a hc24]; simp only [List.cons_append, List.nil_append]; exact V_bo26
  refine Y.icmpYes X23 hx (pc0 := 79) (pc' := 95) rfl (hb hby d25_79) rfl (flt hc24).2.1 (by decide) (by decide) ?_
  refine Y.iload X23 hx (hb hby d25_95) rfl ?_
  refine Y.sipush X23 hx (hb hby d25_97) ?_
  by_cases hc27 : c1 < (2048 : Int32)
  refine Y.icmpNo X23 hx (hb hby d25_100) rfl (tlt hc27).2.1 ?_
  refine Y.aload X23 hx (hb hby d25_103) rfl rfl ?_
  refine Y.iloadN X23 hx (hb hby d25_105) rfl ?_
  refine Y.iinc X23 hx (hb hby d25_106) rfl (l' := #[.val (.ref a1), .val (.int (1 : Int32)), .val (.int (3 : Int32)), .val (.int (2 : Int32)), .val (.int (2 : Int32)), .val (.ref b1), .val (.int c1), .unset, .unset]) rfl ?_
  refine Y.sipush X23 hx (hb hby d25_109) ?_
  refine Y.iload X23 hx (hb hby d25_112) rfl ?_
  refine Y.bipush X23 hx (hb hby d25_114) ?_
  refine Y.ishr X23 hx (hb hby d25_116) rfl ?_
  refine Y.ior X23 hx (hb hby d25_117) rfl ?_
  refine Y.i2b X23 hx (hb hby d25_118) rfl ?_
  obtain ⟨T28, h28, X28, e28, W28, V28, st28⟩ := own_stB X23 hx hZ e23 V_b1 (j := (2 : Int32)) (i := 2) (by decide) (by decide) (Nat.lt_of_lt_of_eq (by decide : 2 < 6) rfl) (g := (mkF m 119 #[.val (.ref a1), .val (.int (1 : Int32)), .val (.int (3 : Int32)), .val (.int (2 : Int32)), .val (.int (2 : Int32)), .val (.ref b1), .val (.int c1), .unset, .unset] [(.int (((192 : Int32) ||| (c1 >>> ((6 : Int32) &&& 31))).toInt8.toInt32)), (.int (2 : Int32)), (.ref b1)])) rfl rfl (hb hby d25_119)
  refine Gl.pre (fun _ k => st28 _ k) ?_
  have V_a1 := V_a1.other W28 (own_ne_a1_b1)
  have O_ := O_.wr W28 g_b1
  have Z28 : n0 ≤ h28.size := by rw [W28.size]; exact Z22
  have N28 := Fr.snoc X28 N23 g_b1
  have K28 := K22.wr W28 (Or.inr sz_b1)
  have V_b1 : Bal Z h28 b1 .byte [(nar .byte (((192 : Int32) ||| (c0 >>> ((6 : Int32) &&& 31))).toInt8.toInt32)), (nar .byte (((128 : Int32) ||| (c0 &&& (63 : Int32))).toInt8.toInt32)), (nar .byte (((192 : Int32) ||| (c1 >>> ((6 : Int32) &&& 31))).toInt8.toInt32)), (0 : Int32), (0 : Int32), (0 : Int32)] := V28
  refine Y.aload X28 hx (hb hby d25_120) rfl rfl ?_
  refine Y.iloadN X28 hx (hb hby d25_122) rfl ?_
  refine Y.iinc X28 hx (hb hby d25_123) rfl (l' := #[.val (.ref a1), .val (.int (1 : Int32)), .val (.int (4 : Int32)), .val (.int (2 : Int32)), .val (.int (2 : Int32)), .val (.ref b1), .val (.int c1), .unset, .unset]) rfl ?_
  refine Y.sipush X28 hx (hb hby d25_126) ?_
  refine Y.iload X28 hx (hb hby d25_129) rfl ?_
  refine Y.bipush X28 hx (hb hby d25_131) ?_
  refine Y.iand X28 hx (hb hby d25_133) rfl ?_
  refine Y.ior X28 hx (hb hby d25_134) rfl ?_
  refine Y.i2b X28 hx (hb hby d25_135) rfl ?_
  obtain ⟨T29, h29, X29, e29, W29, V29, st29⟩ := own_stB X28 hx hZ e28 V_b1 (j := (3 : Int32)) (i := 3) (by decide) (by decide) (Nat.lt_of_lt_of_eq (by decide : 3 < 6) rfl) (g := (mkF m 136 #[.val (.ref a1), .val (.int (1 : Int32)), .val (.int (4 : Int32)), .val (.int (2 : Int32)), .val (.int (2 : Int32)), .val (.ref b1), .val (.int c1), .unset, .unset] [(.int (((128 : Int32) ||| (c1 &&& (63 : Int32))).toInt8.toInt32)), (.int (3 : Int32)), (.ref b1)])) rfl rfl (hb hby d25_136)
  refine Gl.pre (fun _ k => st29 _ k) ?_
  have V_a1 := V_a1.other W29 (own_ne_a1_b1)
  have O_ := O_.wr W29 g_b1
  have Z29 : n0 ≤ h29.size := by rw [W29.size]; exact Z28
  have N29 := Fr.snoc X29 N28 g_b1
  have K29 := K28.wr W29 (Or.inr sz_b1)
  have V_b1 : Bal Z h29 b1 .byte [(nar .byte (((192 : Int32) ||| (c0 >>> ((6 : Int32) &&& 31))).toInt8.toInt32)), (nar .byte (((128 : Int32) ||| (c0 &&& (63 : Int32))).toInt8.toInt32)), (nar .byte (((192 : Int32) ||| (c1 >>> ((6 : Int32) &&& 31))).toInt8.toInt32)), (nar .byte (((128 : Int32) ||| (c1 &&& (63 : Int32))).toInt8.toInt32)), (0 : Int32), (0 : Int32)] := V29
  refine Y.goto X29 hx (pc0 := 137) (pc' := 352) rfl (hb hby d25_137) (by decide) (by decide) ?_
  refine Y.goto X29 hx (pc0 := 352) (pc' := 58) rfl (hb hby d25_352) (by decide) (by decide) ?_
  refine Y.iloadN X29 hx (hb hby d25_58) rfl ?_
  refine Y.iload X29 hx (hb hby d25_59) rfl ?_
  refine Y.icmpYes X29 hx (pc0 := 61) (pc' := 355) rfl (hb hby d25_61) rfl (flt (show ¬ ((2 : Int32) < (2 : Int32)) from (by decide))).2.1 (by decide) (by decide) ?_
  refine Y.iloadN X29 hx (hb hby d25_355) rfl ?_
  refine Y.aload X29 hx (hb hby d25_356) rfl rfl ?_
  refine Gl.pre (fun _ k => own_len X29 hx hZ e29 V_b1 (v := (6 : Int32)) rfl (g := (mkF m 358 #[.val (.ref a1), .val (.int (1 : Int32)), .val (.int (4 : Int32)), .val (.int (2 : Int32)), .val (.int (2 : Int32)), .val (.ref b1), .val (.int c1), .unset, .unset] [(.ref b1), (.int (4 : Int32))])) rfl rfl (hb hby d25_358) _ k) ?_
  refine Y.icmpYes X29 hx (pc0 := 359) (pc' := 365) rfl (hb hby d25_359) rfl (feq (show ¬ ((4 : Int32) = (6 : Int32)) from (by decide))).2 (by decide) (by decide) ?_
  refine Y.aload X29 hx (hb hby d25_365) rfl rfl ?_
  refine Y.iloadN X29 hx (hb hby d25_367) rfl ?_
  obtain ⟨_, _, ⟨T30, L30, k30, n30⟩, -, X30, ⟨Lc30, hQ30, l30, y30, z30⟩, st30⟩ := Jvm.LawKit.callS X29 hx (y := (⟨"java/util/Arrays", "copyOf", "([BI)[B"⟩ : MethodName)) hown (mvT hZ (W 129 rfl)) (mvT hZ (W 130 rfl)) (mvT hZ (W 131 rfl)) (mvT hZ (W 132 rfl)) (by decide) (backOf (W := 0) (rmco6_4 l Z a0 hw [] b1 (nar .byte (((192 : Int32) ||| (c0 >>> ((6 : Int32) &&& 31))).toInt8.toInt32)) (nar .byte (((128 : Int32) ||| (c0 &&& (63 : Int32))).toInt8.toInt32)) (nar .byte (((192 : Int32) ||| (c1 >>> ((6 : Int32) &&& 31))).toInt8.toInt32)) (nar .byte (((128 : Int32) ||| (c1 &&& (63 : Int32))).toInt8.toInt32)) (0 : Int32) (0 : Int32) h29 n0 Z29 V_b1 (by intro x hx; simp only [List.mem_cons, List.not_mem_nil, or_false] at hx; rcases hx with rfl | rfl | rfl | rfl | rfl | rfl <;> first | exact fits_nar_byte _ | rfl)) hZ (W 132 rfl) (W 131 rfl) (by decide) (by decide)) (g := (mkF m 368 #[.val (.ref a1), .val (.int (1 : Int32)), .val (.int (4 : Int32)), .val (.int (2 : Int32)), .val (.int (2 : Int32)), .val (.ref b1), .val (.int c1), .unset, .unset] [(.int (4 : Int32)), (.ref b1)])) rfl (by rw [hml]; rfl) (argsL := [(.ref b1), (.int (4 : Int32))]) (rest := []) (lenOf pd_10 rfl) rfl (by show 2 * 0 + _ ≤ _; exact Nat.le_of_eq rfl) (hb hby d25_368) (fun _ _ => ⟨rfl, e29, (by decide : 1 + 1 ≤ _), (by decide : 6 + 4 ≤ _)⟩)
  dsimp only [Pt.U, Pt.locs, Pt.cells, Pt.slots] at X30 l30 y30 z30 st30 hQ30
  subst l30 y30 z30
  obtain ⟨bo30, rfl, N30q, hz30, K30, V30q⟩ := hQ30
  have N30 := Fr.app N29 N30q
  refine Gl.pre (fun _ k => st30 _ k) ?_
  have own_ne_a1_bo30 : a1 ≠ bo30 := Nat.ne_of_lt (Nat.lt_of_lt_of_le V_a1.lt hz30)
  have own_ne_bo30_a1 := own_ne_a1_bo30.symm
  have own_ne_b1_bo30 : b1 ≠ bo30 := Nat.ne_of_lt (Nat.lt_of_lt_of_le V_b1.lt hz30)
  have own_ne_bo30_b1 := own_ne_b1_bo30.symm
  have g_bo30 : n0 ≤ bo30 := Nat.le_trans Z29 hz30
  have sz_bo30 : h0.size ≤ bo30 := Nat.le_trans K29.1 hz30
  have V_a1 := V_a1.keep K30 nin0
  have O_ := O_.keep K30 all0
  have V_b1 := V_b1.keep K30 nin0
  have Z30 : n0 ≤ T30.heap.size := Nat.le_trans Z29 K30.1
  have K30k := K29.trans K30 all0
  have V_bo30 := V30q
  rw [hPP]
  refine own_finA (Q := (Que2 Z a1 c0 c1 h0 n0)) X30 hx hlk Bd.returns rfl rfl (hb hby d25_371) ?_ (by decide) (by decide)
  show Que2 Z a1 c0 c1 h0 n0 _ T30.heap _
  refine ⟨bo30, rfl, N30, sz_bo30, K30k, ?_⟩
  rw [own_ue2, own_u1b hc3 hc20, own_u1b hc24 hc27]; simp only [List.cons_append, List.nil_append]; exact V_bo30
  refine Y.icmpYes X23 hx (pc0 := 100) (pc' := 140) rfl (hb hby d25_100) rfl (flt hc27).2.1 (by decide) (by decide) ?_
  refine Y.iload X23 hx (hb hby d25_140) rfl ?_
  obtain ⟨_, _, ⟨T31, L31, k31, n31⟩, -, X31, ⟨Lc31, hQ31, l31, y31, z31⟩, st31⟩ := Jvm.LawKit.callS X23 hx (y := (⟨"java/lang/Character", "isSurrogate", "(C)Z"⟩ : MethodName)) hown (mvT hZ (W 122 rfl)) (mvT hZ (W 123 rfl)) (mvT hZ (W 124 rfl)) (mvT hZ (W 125 rfl)) (by decide) (backOf (W := 0) (rmiss l Z a0 hw [] c1 h22 n0 Z22 hn1) hZ (W 125 rfl) (W 124 rfl) (by decide) (by decide)) (g := (mkF m 142 #[.val (.ref a1), .val (.int (1 : Int32)), .val (.int (2 : Int32)), .val (.int (2 : Int32)), .val (.int (2 : Int32)), .val (.ref b1), .val (.int c1), .unset, .unset] [(.int c1)])) rfl (by rw [hml]; rfl) (argsL := [(.int c1)]) (rest := []) (lenOf pd_11 rfl) rfl (by show 2 * 0 + _ ≤ _; exact Nat.le_of_eq rfl) (hb hby d25_142) (fun _ _ => ⟨rfl, e23, (by decide : 1 + 0 ≤ _), (by decide : 6 + 0 ≤ _)⟩)
  dsimp only [Pt.U, Pt.locs, Pt.cells, Pt.slots] at X31 l31 y31 z31 st31 hQ31
  subst l31 y31 z31
  obtain ⟨rfl, N31q, e31⟩ := hQ31
  have N31 := Fr.app N23 N31q
  refine Gl.pre (fun _ k => st31 _ k) ?_
  refine Y.ifYes X31 hx (pc0 := 145) (pc' := 298) rfl (hb hby d25_145) rfl ((if0 _ _).trans (teq (show (0 : Int32) = (0 : Int32) from (by decide))).1) (by decide) (by decide) ?_
  refine Y.aload X31 hx (hb hby d25_298) rfl rfl ?_
  refine Y.iloadN X31 hx (hb hby d25_300) rfl ?_
  refine Y.iinc X31 hx (hb hby d25_301) rfl (l' := #[.val (.ref a1), .val (.int (1 : Int32)), .val (.int (3 : Int32)), .val (.int (2 : Int32)), .val (.int (2 : Int32)), .val (.ref b1), .val (.int c1), .unset, .unset]) rfl ?_
  refine Y.sipush X31 hx (hb hby d25_304) ?_
  refine Y.iload X31 hx (hb hby d25_307) rfl ?_
  refine Y.bipush X31 hx (hb hby d25_309) ?_
  refine Y.ishr X31 hx (hb hby d25_311) rfl ?_
  refine Y.ior X31 hx (hb hby d25_312) rfl ?_
  refine Y.i2b X31 hx (hb hby d25_313) rfl ?_
  obtain ⟨T32, h32, X32, e32, W32, V32, st32⟩ := own_stB X31 hx hZ e31 V_b1 (j := (2 : Int32)) (i := 2) (by decide) (by decide) (Nat.lt_of_lt_of_eq (by decide : 2 < 6) rfl) (g := (mkF m 314 #[.val (.ref a1), .val (.int (1 : Int32)), .val (.int (3 : Int32)), .val (.int (2 : Int32)), .val (.int (2 : Int32)), .val (.ref b1), .val (.int c1), .unset, .unset] [(.int (((224 : Int32) ||| (c1 >>> ((12 : Int32) &&& 31))).toInt8.toInt32)), (.int (2 : Int32)), (.ref b1)])) rfl rfl (hb hby d25_314)
  refine Gl.pre (fun _ k => st32 _ k) ?_
  have V_a1 := V_a1.other W32 (own_ne_a1_b1)
  have O_ := O_.wr W32 g_b1
  have Z32 : n0 ≤ h32.size := by rw [W32.size]; exact Z22
  have N32 := Fr.snoc X32 N31 g_b1
  have K32 := K22.wr W32 (Or.inr sz_b1)
  have V_b1 : Bal Z h32 b1 .byte [(nar .byte (((192 : Int32) ||| (c0 >>> ((6 : Int32) &&& 31))).toInt8.toInt32)), (nar .byte (((128 : Int32) ||| (c0 &&& (63 : Int32))).toInt8.toInt32)), (nar .byte (((224 : Int32) ||| (c1 >>> ((12 : Int32) &&& 31))).toInt8.toInt32)), (0 : Int32), (0 : Int32), (0 : Int32)] := V32
  refine Y.aload X32 hx (hb hby d25_315) rfl rfl ?_
  refine Y.iloadN X32 hx (hb hby d25_317) rfl ?_
  refine Y.iinc X32 hx (hb hby d25_318) rfl (l' := #[.val (.ref a1), .val (.int (1 : Int32)), .val (.int (4 : Int32)), .val (.int (2 : Int32)), .val (.int (2 : Int32)), .val (.ref b1), .val (.int c1), .unset, .unset]) rfl ?_
  refine Y.sipush X32 hx (hb hby d25_321) ?_
  refine Y.iload X32 hx (hb hby d25_324) rfl ?_
  refine Y.bipush X32 hx (hb hby d25_326) ?_
  refine Y.ishr X32 hx (hb hby d25_328) rfl ?_
  refine Y.bipush X32 hx (hb hby d25_329) ?_
  refine Y.iand X32 hx (hb hby d25_331) rfl ?_
  refine Y.ior X32 hx (hb hby d25_332) rfl ?_
  refine Y.i2b X32 hx (hb hby d25_333) rfl ?_
  obtain ⟨T33, h33, X33, e33, W33, V33, st33⟩ := own_stB X32 hx hZ e32 V_b1 (j := (3 : Int32)) (i := 3) (by decide) (by decide) (Nat.lt_of_lt_of_eq (by decide : 3 < 6) rfl) (g := (mkF m 334 #[.val (.ref a1), .val (.int (1 : Int32)), .val (.int (4 : Int32)), .val (.int (2 : Int32)), .val (.int (2 : Int32)), .val (.ref b1), .val (.int c1), .unset, .unset] [(.int (((128 : Int32) ||| ((c1 >>> ((6 : Int32) &&& 31)) &&& (63 : Int32))).toInt8.toInt32)), (.int (3 : Int32)), (.ref b1)])) rfl rfl (hb hby d25_334)
  refine Gl.pre (fun _ k => st33 _ k) ?_
  have V_a1 := V_a1.other W33 (own_ne_a1_b1)
  have O_ := O_.wr W33 g_b1
  have Z33 : n0 ≤ h33.size := by rw [W33.size]; exact Z32
  have N33 := Fr.snoc X33 N32 g_b1
  have K33 := K32.wr W33 (Or.inr sz_b1)
  have V_b1 : Bal Z h33 b1 .byte [(nar .byte (((192 : Int32) ||| (c0 >>> ((6 : Int32) &&& 31))).toInt8.toInt32)), (nar .byte (((128 : Int32) ||| (c0 &&& (63 : Int32))).toInt8.toInt32)), (nar .byte (((224 : Int32) ||| (c1 >>> ((12 : Int32) &&& 31))).toInt8.toInt32)), (nar .byte (((128 : Int32) ||| ((c1 >>> ((6 : Int32) &&& 31)) &&& (63 : Int32))).toInt8.toInt32)), (0 : Int32), (0 : Int32)] := V33
  refine Y.aload X33 hx (hb hby d25_335) rfl rfl ?_
  refine Y.iloadN X33 hx (hb hby d25_337) rfl ?_
  refine Y.iinc X33 hx (hb hby d25_338) rfl (l' := #[.val (.ref a1), .val (.int (1 : Int32)), .val (.int (5 : Int32)), .val (.int (2 : Int32)), .val (.int (2 : Int32)), .val (.ref b1), .val (.int c1), .unset, .unset]) rfl ?_
  refine Y.sipush X33 hx (hb hby d25_341) ?_
  refine Y.iload X33 hx (hb hby d25_344) rfl ?_
  refine Y.bipush X33 hx (hb hby d25_346) ?_
  refine Y.iand X33 hx (hb hby d25_348) rfl ?_
  refine Y.ior X33 hx (hb hby d25_349) rfl ?_
  refine Y.i2b X33 hx (hb hby d25_350) rfl ?_
  obtain ⟨T34, h34, X34, e34, W34, V34, st34⟩ := own_stB X33 hx hZ e33 V_b1 (j := (4 : Int32)) (i := 4) (by decide) (by decide) (Nat.lt_of_lt_of_eq (by decide : 4 < 6) rfl) (g := (mkF m 351 #[.val (.ref a1), .val (.int (1 : Int32)), .val (.int (5 : Int32)), .val (.int (2 : Int32)), .val (.int (2 : Int32)), .val (.ref b1), .val (.int c1), .unset, .unset] [(.int (((128 : Int32) ||| (c1 &&& (63 : Int32))).toInt8.toInt32)), (.int (4 : Int32)), (.ref b1)])) rfl rfl (hb hby d25_351)
  refine Gl.pre (fun _ k => st34 _ k) ?_
  have V_a1 := V_a1.other W34 (own_ne_a1_b1)
  have O_ := O_.wr W34 g_b1
  have Z34 : n0 ≤ h34.size := by rw [W34.size]; exact Z33
  have N34 := Fr.snoc X34 N33 g_b1
  have K34 := K33.wr W34 (Or.inr sz_b1)
  have V_b1 : Bal Z h34 b1 .byte [(nar .byte (((192 : Int32) ||| (c0 >>> ((6 : Int32) &&& 31))).toInt8.toInt32)), (nar .byte (((128 : Int32) ||| (c0 &&& (63 : Int32))).toInt8.toInt32)), (nar .byte (((224 : Int32) ||| (c1 >>> ((12 : Int32) &&& 31))).toInt8.toInt32)), (nar .byte (((128 : Int32) ||| ((c1 >>> ((6 : Int32) &&& 31)) &&& (63 : Int32))).toInt8.toInt32)), (nar .byte (((128 : Int32) ||| (c1 &&& (63 : Int32))).toInt8.toInt32)), (0 : Int32)] := V34
  refine Y.goto X34 hx (pc0 := 352) (pc' := 58) rfl (hb hby d25_352) (by decide) (by decide) ?_
  refine Y.iloadN X34 hx (hb hby d25_58) rfl ?_
  refine Y.iload X34 hx (hb hby d25_59) rfl ?_
  refine Y.icmpYes X34 hx (pc0 := 61) (pc' := 355) rfl (hb hby d25_61) rfl (flt (show ¬ ((2 : Int32) < (2 : Int32)) from (by decide))).2.1 (by decide) (by decide) ?_
  refine Y.iloadN X34 hx (hb hby d25_355) rfl ?_
  refine Y.aload X34 hx (hb hby d25_356) rfl rfl ?_
  refine Gl.pre (fun _ k => own_len X34 hx hZ e34 V_b1 (v := (6 : Int32)) rfl (g := (mkF m 358 #[.val (.ref a1), .val (.int (1 : Int32)), .val (.int (5 : Int32)), .val (.int (2 : Int32)), .val (.int (2 : Int32)), .val (.ref b1), .val (.int c1), .unset, .unset] [(.ref b1), (.int (5 : Int32))])) rfl rfl (hb hby d25_358) _ k) ?_
  refine Y.icmpYes X34 hx (pc0 := 359) (pc' := 365) rfl (hb hby d25_359) rfl (feq (show ¬ ((5 : Int32) = (6 : Int32)) from (by decide))).2 (by decide) (by decide) ?_
  refine Y.aload X34 hx (hb hby d25_365) rfl rfl ?_
  refine Y.iloadN X34 hx (hb hby d25_367) rfl ?_
  obtain ⟨_, _, ⟨T35, L35, k35, n35⟩, -, X35, ⟨Lc35, hQ35, l35, y35, z35⟩, st35⟩ := Jvm.LawKit.callS X34 hx (y := (⟨"java/util/Arrays", "copyOf", "([BI)[B"⟩ : MethodName)) hown (mvT hZ (W 129 rfl)) (mvT hZ (W 130 rfl)) (mvT hZ (W 131 rfl)) (mvT hZ (W 132 rfl)) (by decide) (backOf (W := 0) (rmco6_5 l Z a0 hw [] b1 (nar .byte (((192 : Int32) ||| (c0 >>> ((6 : Int32) &&& 31))).toInt8.toInt32)) (nar .byte (((128 : Int32) ||| (c0 &&& (63 : Int32))).toInt8.toInt32)) (nar .byte (((224 : Int32) ||| (c1 >>> ((12 : Int32) &&& 31))).toInt8.toInt32)) (nar .byte (((128 : Int32) ||| ((c1 >>> ((6 : Int32) &&& 31)) &&& (63 : Int32))).toInt8.toInt32)) (nar .byte (((128 : Int32) ||| (c1 &&& (63 : Int32))).toInt8.toInt32)) (0 : Int32) h34 n0 Z34 V_b1 (by intro x hx; simp only [List.mem_cons, List.not_mem_nil, or_false] at hx; rcases hx with rfl | rfl | rfl | rfl | rfl | rfl <;> first | exact fits_nar_byte _ | rfl)) hZ (W 132 rfl) (W 131 rfl) (by decide) (by decide)) (g := (mkF m 368 #[.val (.ref a1), .val (.int (1 : Int32)), .val (.int (5 : Int32)), .val (.int (2 : Int32)), .val (.int (2 : Int32)), .val (.ref b1), .val (.int c1), .unset, .unset] [(.int (5 : Int32)), (.ref b1)])) rfl (by rw [hml]; rfl) (argsL := [(.ref b1), (.int (5 : Int32))]) (rest := []) (lenOf pd_10 rfl) rfl (by show 2 * 0 + _ ≤ _; exact Nat.le_of_eq rfl) (hb hby d25_368) (fun _ _ => ⟨rfl, e34, (by decide : 1 + 1 ≤ _), (by decide : 6 + 5 ≤ _)⟩)
  dsimp only [Pt.U, Pt.locs, Pt.cells, Pt.slots] at X35 l35 y35 z35 st35 hQ35
  subst l35 y35 z35
  obtain ⟨bo35, rfl, N35q, hz35, K35, V35q⟩ := hQ35
  have N35 := Fr.app N34 N35q
  refine Gl.pre (fun _ k => st35 _ k) ?_
  have own_ne_a1_bo35 : a1 ≠ bo35 := Nat.ne_of_lt (Nat.lt_of_lt_of_le V_a1.lt hz35)
  have own_ne_bo35_a1 := own_ne_a1_bo35.symm
  have own_ne_b1_bo35 : b1 ≠ bo35 := Nat.ne_of_lt (Nat.lt_of_lt_of_le V_b1.lt hz35)
  have own_ne_bo35_b1 := own_ne_b1_bo35.symm
  have g_bo35 : n0 ≤ bo35 := Nat.le_trans Z34 hz35
  have sz_bo35 : h0.size ≤ bo35 := Nat.le_trans K34.1 hz35
  have V_a1 := V_a1.keep K35 nin0
  have O_ := O_.keep K35 all0
  have V_b1 := V_b1.keep K35 nin0
  have Z35 : n0 ≤ T35.heap.size := Nat.le_trans Z34 K35.1
  have K35k := K34.trans K35 all0
  have V_bo35 := V35q
  rw [hPP]
  refine own_finA (Q := (Que2 Z a1 c0 c1 h0 n0)) X35 hx hlk Bd.returns rfl rfl (hb hby d25_371) ?_ (by decide) (by decide)
  show Que2 Z a1 c0 c1 h0 n0 _ T35.heap _
  refine ⟨bo35, rfl, N35, sz_bo35, K35k, ?_⟩
  rw [own_ue2, own_u1b hc3 hc20, own_u1c hc24 hc27]; simp only [List.cons_append, List.nil_append]; exact V_bo35
  refine Y.icmpYes X19 hx (pc0 := 100) (pc' := 140) rfl (hb hby d25_100) rfl (flt hc20).2.1 (by decide) (by decide) ?_
  refine Y.iload X19 hx (hb hby d25_140) rfl ?_
  obtain ⟨_, _, ⟨T36, L36, k36, n36⟩, -, X36, ⟨Lc36, hQ36, l36, y36, z36⟩, st36⟩ := Jvm.LawKit.callS X19 hx (y := (⟨"java/lang/Character", "isSurrogate", "(C)Z"⟩ : MethodName)) hown (mvT hZ (W 122 rfl)) (mvT hZ (W 123 rfl)) (mvT hZ (W 124 rfl)) (mvT hZ (W 125 rfl)) (by decide) (backOf (W := 0) (rmiss l Z a0 hw [] c0 h1 n0 Z1 hn0) hZ (W 125 rfl) (W 124 rfl) (by decide) (by decide)) (g := (mkF m 142 #[.val (.ref a1), .val (.int (1 : Int32)), .val (.int (0 : Int32)), .val (.int (1 : Int32)), .val (.int (2 : Int32)), .val (.ref b1), .val (.int c0), .unset, .unset] [(.int c0)])) rfl (by rw [hml]; rfl) (argsL := [(.int c0)]) (rest := []) (lenOf pd_11 rfl) rfl (by show 2 * 0 + _ ≤ _; exact Nat.le_of_eq rfl) (hb hby d25_142) (fun _ _ => ⟨rfl, e19, (by decide : 1 + 0 ≤ _), (by decide : 6 + 0 ≤ _)⟩)
  dsimp only [Pt.U, Pt.locs, Pt.cells, Pt.slots] at X36 l36 y36 z36 st36 hQ36
  subst l36 y36 z36
  obtain ⟨rfl, N36q, e36⟩ := hQ36
  have N36 := Fr.app N19 N36q
  refine Gl.pre (fun _ k => st36 _ k) ?_
  refine Y.ifYes X36 hx (pc0 := 145) (pc' := 298) rfl (hb hby d25_145) rfl ((if0 _ _).trans (teq (show (0 : Int32) = (0 : Int32) from (by decide))).1) (by decide) (by decide) ?_
  refine Y.aload X36 hx (hb hby d25_298) rfl rfl ?_
  refine Y.iloadN X36 hx (hb hby d25_300) rfl ?_
  refine Y.iinc X36 hx (hb hby d25_301) rfl (l' := #[.val (.ref a1), .val (.int (1 : Int32)), .val (.int (1 : Int32)), .val (.int (1 : Int32)), .val (.int (2 : Int32)), .val (.ref b1), .val (.int c0), .unset, .unset]) rfl ?_
  refine Y.sipush X36 hx (hb hby d25_304) ?_
  refine Y.iload X36 hx (hb hby d25_307) rfl ?_
  refine Y.bipush X36 hx (hb hby d25_309) ?_
  refine Y.ishr X36 hx (hb hby d25_311) rfl ?_
  refine Y.ior X36 hx (hb hby d25_312) rfl ?_
  refine Y.i2b X36 hx (hb hby d25_313) rfl ?_
  obtain ⟨T37, h37, X37, e37, W37, V37, st37⟩ := own_stB X36 hx hZ e36 V_b1 (j := (0 : Int32)) (i := 0) (by decide) (by decide) (Nat.lt_of_lt_of_eq (by decide : 0 < 6) rfl) (g := (mkF m 314 #[.val (.ref a1), .val (.int (1 : Int32)), .val (.int (1 : Int32)), .val (.int (1 : Int32)), .val (.int (2 : Int32)), .val (.ref b1), .val (.int c0), .unset, .unset] [(.int (((224 : Int32) ||| (c0 >>> ((12 : Int32) &&& 31))).toInt8.toInt32)), (.int (0 : Int32)), (.ref b1)])) rfl rfl (hb hby d25_314)
  refine Gl.pre (fun _ k => st37 _ k) ?_
  have V_a1 := V_a1.other W37 (own_ne_a1_b1)
  have O_ := O_.wr W37 g_b1
  have Z37 : n0 ≤ h37.size := by rw [W37.size]; exact Z1
  have N37 := Fr.snoc X37 N36 g_b1
  have K37 := K1.wr W37 (Or.inr sz_b1)
  have V_b1 : Bal Z h37 b1 .byte [(nar .byte (((224 : Int32) ||| (c0 >>> ((12 : Int32) &&& 31))).toInt8.toInt32)), (0 : Int32), (0 : Int32), (0 : Int32), (0 : Int32), (0 : Int32)] := V37
  refine Y.aload X37 hx (hb hby d25_315) rfl rfl ?_
  refine Y.iloadN X37 hx (hb hby d25_317) rfl ?_
  refine Y.iinc X37 hx (hb hby d25_318) rfl (l' := #[.val (.ref a1), .val (.int (1 : Int32)), .val (.int (2 : Int32)), .val (.int (1 : Int32)), .val (.int (2 : Int32)), .val (.ref b1), .val (.int c0), .unset, .unset]) rfl ?_
  refine Y.sipush X37 hx (hb hby d25_321) ?_
  refine Y.iload X37 hx (hb hby d25_324) rfl ?_
  refine Y.bipush X37 hx (hb hby d25_326) ?_
  refine Y.ishr X37 hx (hb hby d25_328) rfl ?_
  refine Y.bipush X37 hx (hb hby d25_329) ?_
  refine Y.iand X37 hx (hb hby d25_331) rfl ?_
  refine Y.ior X37 hx (hb hby d25_332) rfl ?_
  refine Y.i2b X37 hx (hb hby d25_333) rfl ?_
  obtain ⟨T38, h38, X38, e38, W38, V38, st38⟩ := own_stB X37 hx hZ e37 V_b1 (j := (1 : Int32)) (i := 1) (by decide) (by decide) (Nat.lt_of_lt_of_eq (by decide : 1 < 6) rfl) (g := (mkF m 334 #[.val (.ref a1), .val (.int (1 : Int32)), .val (.int (2 : Int32)), .val (.int (1 : Int32)), .val (.int (2 : Int32)), .val (.ref b1), .val (.int c0), .unset, .unset] [(.int (((128 : Int32) ||| ((c0 >>> ((6 : Int32) &&& 31)) &&& (63 : Int32))).toInt8.toInt32)), (.int (1 : Int32)), (.ref b1)])) rfl rfl (hb hby d25_334)
  refine Gl.pre (fun _ k => st38 _ k) ?_
  have V_a1 := V_a1.other W38 (own_ne_a1_b1)
  have O_ := O_.wr W38 g_b1
  have Z38 : n0 ≤ h38.size := by rw [W38.size]; exact Z37
  have N38 := Fr.snoc X38 N37 g_b1
  have K38 := K37.wr W38 (Or.inr sz_b1)
  have V_b1 : Bal Z h38 b1 .byte [(nar .byte (((224 : Int32) ||| (c0 >>> ((12 : Int32) &&& 31))).toInt8.toInt32)), (nar .byte (((128 : Int32) ||| ((c0 >>> ((6 : Int32) &&& 31)) &&& (63 : Int32))).toInt8.toInt32)), (0 : Int32), (0 : Int32), (0 : Int32), (0 : Int32)] := V38
  refine Y.aload X38 hx (hb hby d25_335) rfl rfl ?_
  refine Y.iloadN X38 hx (hb hby d25_337) rfl ?_
  refine Y.iinc X38 hx (hb hby d25_338) rfl (l' := #[.val (.ref a1), .val (.int (1 : Int32)), .val (.int (3 : Int32)), .val (.int (1 : Int32)), .val (.int (2 : Int32)), .val (.ref b1), .val (.int c0), .unset, .unset]) rfl ?_
  refine Y.sipush X38 hx (hb hby d25_341) ?_
  refine Y.iload X38 hx (hb hby d25_344) rfl ?_
  refine Y.bipush X38 hx (hb hby d25_346) ?_
  refine Y.iand X38 hx (hb hby d25_348) rfl ?_
  refine Y.ior X38 hx (hb hby d25_349) rfl ?_
  refine Y.i2b X38 hx (hb hby d25_350) rfl ?_
  obtain ⟨T39, h39, X39, e39, W39, V39, st39⟩ := own_stB X38 hx hZ e38 V_b1 (j := (2 : Int32)) (i := 2) (by decide) (by decide) (Nat.lt_of_lt_of_eq (by decide : 2 < 6) rfl) (g := (mkF m 351 #[.val (.ref a1), .val (.int (1 : Int32)), .val (.int (3 : Int32)), .val (.int (1 : Int32)), .val (.int (2 : Int32)), .val (.ref b1), .val (.int c0), .unset, .unset] [(.int (((128 : Int32) ||| (c0 &&& (63 : Int32))).toInt8.toInt32)), (.int (2 : Int32)), (.ref b1)])) rfl rfl (hb hby d25_351)
  refine Gl.pre (fun _ k => st39 _ k) ?_
  have V_a1 := V_a1.other W39 (own_ne_a1_b1)
  have O_ := O_.wr W39 g_b1
  have Z39 : n0 ≤ h39.size := by rw [W39.size]; exact Z38
  have N39 := Fr.snoc X39 N38 g_b1
  have K39 := K38.wr W39 (Or.inr sz_b1)
  have V_b1 : Bal Z h39 b1 .byte [(nar .byte (((224 : Int32) ||| (c0 >>> ((12 : Int32) &&& 31))).toInt8.toInt32)), (nar .byte (((128 : Int32) ||| ((c0 >>> ((6 : Int32) &&& 31)) &&& (63 : Int32))).toInt8.toInt32)), (nar .byte (((128 : Int32) ||| (c0 &&& (63 : Int32))).toInt8.toInt32)), (0 : Int32), (0 : Int32), (0 : Int32)] := V39
  refine Y.goto X39 hx (pc0 := 352) (pc' := 58) rfl (hb hby d25_352) (by decide) (by decide) ?_
  refine Y.iloadN X39 hx (hb hby d25_58) rfl ?_
  refine Y.iload X39 hx (hb hby d25_59) rfl ?_
  refine Y.icmpNo X39 hx (hb hby d25_61) rfl (tlt (show (1 : Int32) < (2 : Int32) from (by decide))).2.1 ?_
  refine Y.aloadN X39 hx (hb hby d25_64) rfl rfl ?_
  refine Y.iloadN X39 hx (hb hby d25_65) rfl ?_
  refine Y.iinc X39 hx (hb hby d25_66) rfl (l' := #[.val (.ref a1), .val (.int (1 : Int32)), .val (.int (3 : Int32)), .val (.int (2 : Int32)), .val (.int (2 : Int32)), .val (.ref b1), .val (.int c0), .unset, .unset]) rfl ?_
  obtain ⟨_, _, ⟨T40, L40, k40, n40⟩, -, X40, ⟨Lc40, hQ40, l40, y40, z40⟩, st40⟩ := Jvm.LawKit.callS X39 hx (y := (⟨"java/lang/StringUTF16", "getChar", "([BI)C"⟩ : MethodName)) hown (mvT hZ (W 121 rfl)) (mvT hZ (W 116 rfl)) (mvT hZ (W 26 rfl)) (mvT hZ (W 117 rfl)) (by decide) (backOf (W := 0) (rmgc2_1 l Z a0 hw [] a1 (nar .byte ((c0 >>> ((0 : Int32) &&& 31)).toInt8.toInt32)) (nar .byte ((c0 >>> ((8 : Int32) &&& 31)).toInt8.toInt32)) (nar .byte ((c1 >>> ((0 : Int32) &&& 31)).toInt8.toInt32)) (nar .byte ((c1 >>> ((8 : Int32) &&& 31)).toInt8.toInt32)) h39 n0 Z39 V_a1 SAD SHI SLO O_) hZ (W 117 rfl) (W 26 rfl) (by decide) (by decide)) (g := (mkF m 69 #[.val (.ref a1), .val (.int (1 : Int32)), .val (.int (3 : Int32)), .val (.int (2 : Int32)), .val (.int (2 : Int32)), .val (.ref b1), .val (.int c0), .unset, .unset] [(.int (1 : Int32)), (.ref a1)])) rfl (by rw [hml]; rfl) (argsL := [(.ref a1), (.int (1 : Int32))]) (rest := []) (lenOf pd_5 rfl) rfl (by show 2 * 0 + _ ≤ _; exact Nat.le_of_eq rfl) (hb hby d25_69) (fun _ _ => ⟨rfl, e39, (by decide : 1 + 0 ≤ _), (by decide : 6 + 0 ≤ _)⟩)
  dsimp only [Pt.U, Pt.locs, Pt.cells, Pt.slots] at X40 l40 y40 z40 st40 hQ40
  subst l40 y40 z40
  obtain ⟨rfl, N40q, e40⟩ := hQ40
  have N40 := Fr.app N39 N40q
  refine Gl.pre (fun _ k => st40 _ k) ?_
  rw [own_gc c1 hr1.1 hr1.2]
  show Gl p.tables e below PP (T40.setTop (mkF m 72 #[.val (.ref a1), .val (.int (1 : Int32)), .val (.int (3 : Int32)), .val (.int (2 : Int32)), .val (.int (2 : Int32)), .val (.ref b1), .val (.int c0), .unset, .unset] [(.int c1)]))
  refine Y.istore X40 hx (hb hby d25_72) rfl (l' := #[.val (.ref a1), .val (.int (1 : Int32)), .val (.int (3 : Int32)), .val (.int (2 : Int32)), .val (.int (2 : Int32)), .val (.ref b1), .val (.int c1), .unset, .unset]) rfl ?_
  refine Y.iload X40 hx (hb hby d25_74) rfl ?_
  refine Y.sipush X40 hx (hb hby d25_76) ?_
  by_cases hc41 : c1 < (128 : Int32)
  refine Y.icmpNo X40 hx (hb hby d25_79) rfl (tlt hc41).2.1 ?_
  refine Y.aload X40 hx (hb hby d25_82) rfl rfl ?_
  refine Y.iloadN X40 hx (hb hby d25_84) rfl ?_
  refine Y.iinc X40 hx (hb hby d25_85) rfl (l' := #[.val (.ref a1), .val (.int (1 : Int32)), .val (.int (4 : Int32)), .val (.int (2 : Int32)), .val (.int (2 : Int32)), .val (.ref b1), .val (.int c1), .unset, .unset]) rfl ?_
  refine Y.iload X40 hx (hb hby d25_88) rfl ?_
  refine Y.i2b X40 hx (hb hby d25_90) rfl ?_
  obtain ⟨T42, h42, X42, e42, W42, V42, st42⟩ := own_stB X40 hx hZ e40 V_b1 (j := (3 : Int32)) (i := 3) (by decide) (by decide) (Nat.lt_of_lt_of_eq (by decide : 3 < 6) rfl) (g := (mkF m 91 #[.val (.ref a1), .val (.int (1 : Int32)), .val (.int (4 : Int32)), .val (.int (2 : Int32)), .val (.int (2 : Int32)), .val (.ref b1), .val (.int c1), .unset, .unset] [(.int (c1.toInt8.toInt32)), (.int (3 : Int32)), (.ref b1)])) rfl rfl (hb hby d25_91)
  refine Gl.pre (fun _ k => st42 _ k) ?_
  have V_a1 := V_a1.other W42 (own_ne_a1_b1)
  have O_ := O_.wr W42 g_b1
  have Z42 : n0 ≤ h42.size := by rw [W42.size]; exact Z39
  have N42 := Fr.snoc X42 N40 g_b1
  have K42 := K39.wr W42 (Or.inr sz_b1)
  have V_b1 : Bal Z h42 b1 .byte [(nar .byte (((224 : Int32) ||| (c0 >>> ((12 : Int32) &&& 31))).toInt8.toInt32)), (nar .byte (((128 : Int32) ||| ((c0 >>> ((6 : Int32) &&& 31)) &&& (63 : Int32))).toInt8.toInt32)), (nar .byte (((128 : Int32) ||| (c0 &&& (63 : Int32))).toInt8.toInt32)), (nar .byte (c1.toInt8.toInt32)), (0 : Int32), (0 : Int32)] := V42
  refine Y.goto X42 hx (pc0 := 92) (pc' := 352) rfl (hb hby d25_92) (by decide) (by decide) ?_
  refine Y.goto X42 hx (pc0 := 352) (pc' := 58) rfl (hb hby d25_352) (by decide) (by decide) ?_
  refine Y.iloadN X42 hx (hb hby d25_58) rfl ?_
  refine Y.iload X42 hx (hb hby d25_59) rfl ?_
  refine Y.icmpYes X42 hx (pc0 := 61) (pc' := 355) rfl (hb hby d25_61) rfl (flt (show ¬ ((2 : Int32) < (2 : Int32)) from (by decide))).2.1 (by decide) (by decide) ?_
  refine Y.iloadN X42 hx (hb hby d25_355) rfl ?_
  refine Y.aload X42 hx (hb hby d25_356) rfl rfl ?_
  refine Gl.pre (fun _ k => own_len X42 hx hZ e42 V_b1 (v := (6 : Int32)) rfl (g := (mkF m 358 #[.val (.ref a1), .val (.int (1 : Int32)), .val (.int (4 : Int32)), .val (.int (2 : Int32)), .val (.int (2 : Int32)), .val (.ref b1), .val (.int c1), .unset, .unset] [(.ref b1), (.int (4 : Int32))])) rfl rfl (hb hby d25_358) _ k) ?_
  refine Y.icmpYes X42 hx (pc0 := 359) (pc' := 365) rfl (hb hby d25_359) rfl (feq (show ¬ ((4 : Int32) = (6 : Int32)) from (by decide))).2 (by decide) (by decide) ?_
  refine Y.aload X42 hx (hb hby d25_365) rfl rfl ?_
  refine Y.iloadN X42 hx (hb hby d25_367) rfl ?_
  obtain ⟨_, _, ⟨T43, L43, k43, n43⟩, -, X43, ⟨Lc43, hQ43, l43, y43, z43⟩, st43⟩ := Jvm.LawKit.callS X42 hx (y := (⟨"java/util/Arrays", "copyOf", "([BI)[B"⟩ : MethodName)) hown (mvT hZ (W 129 rfl)) (mvT hZ (W 130 rfl)) (mvT hZ (W 131 rfl)) (mvT hZ (W 132 rfl)) (by decide) (backOf (W := 0) (rmco6_4 l Z a0 hw [] b1 (nar .byte (((224 : Int32) ||| (c0 >>> ((12 : Int32) &&& 31))).toInt8.toInt32)) (nar .byte (((128 : Int32) ||| ((c0 >>> ((6 : Int32) &&& 31)) &&& (63 : Int32))).toInt8.toInt32)) (nar .byte (((128 : Int32) ||| (c0 &&& (63 : Int32))).toInt8.toInt32)) (nar .byte (c1.toInt8.toInt32)) (0 : Int32) (0 : Int32) h42 n0 Z42 V_b1 (by intro x hx; simp only [List.mem_cons, List.not_mem_nil, or_false] at hx; rcases hx with rfl | rfl | rfl | rfl | rfl | rfl <;> first | exact fits_nar_byte _ | rfl)) hZ (W 132 rfl) (W 131 rfl) (by decide) (by decide)) (g := (mkF m 368 #[.val (.ref a1), .val (.int (1 : Int32)), .val (.int (4 : Int32)), .val (.int (2 : Int32)), .val (.int (2 : Int32)), .val (.ref b1), .val (.int c1), .unset, .unset] [(.int (4 : Int32)), (.ref b1)])) rfl (by rw [hml]; rfl) (argsL := [(.ref b1), (.int (4 : Int32))]) (rest := []) (lenOf pd_10 rfl) rfl (by show 2 * 0 + _ ≤ _; exact Nat.le_of_eq rfl) (hb hby d25_368) (fun _ _ => ⟨rfl, e42, (by decide : 1 + 1 ≤ _), (by decide : 6 + 4 ≤ _)⟩)
  dsimp only [Pt.U, Pt.locs, Pt.cells, Pt.slots] at X43 l43 y43 z43 st43 hQ43
  subst l43 y43 z43
  obtain ⟨bo43, rfl, N43q, hz43, K43, V43q⟩ := hQ43
  have N43 := Fr.app N42 N43q
  refine Gl.pre (fun _ k => st43 _ k) ?_
  have own_ne_a1_bo43 : a1 ≠ bo43 := Nat.ne_of_lt (Nat.lt_of_lt_of_le V_a1.lt hz43)
  have own_ne_bo43_a1 := own_ne_a1_bo43.symm
  have own_ne_b1_bo43 : b1 ≠ bo43 := Nat.ne_of_lt (Nat.lt_of_lt_of_le V_b1.lt hz43)
  have own_ne_bo43_b1 := own_ne_b1_bo43.symm
  have g_bo43 : n0 ≤ bo43 := Nat.le_trans Z42 hz43
  have sz_bo43 : h0.size ≤ bo43 := Nat.le_trans K42.1 hz43
  have V_a1 := V_a1.keep K43 nin0
  have O_ := O_.keep K43 all0
  have V_b1 := V_b1.keep K43 nin0
  have Z43 : n0 ≤ T43.heap.size := Nat.le_trans Z42 K43.1
  have K43k := K42.trans K43 all0
  have V_bo43 := V43q
  rw [hPP]
  refine own_finA (Q := (Que2 Z a1 c0 c1 h0 n0)) X43 hx hlk Bd.returns rfl rfl (hb hby d25_371) ?_ (by decide) (by decide)
  show Que2 Z a1 c0 c1 h0 n0 _ T43.heap _
  refine ⟨bo43, rfl, N43, sz_bo43, K43k, ?_⟩
  rw [own_ue2, own_u1c hc3 hc20, own_u1a hc41]; simp only [List.cons_append, List.nil_append]; exact V_bo43
  refine Y.icmpYes X40 hx (pc0 := 79) (pc' := 95) rfl (hb hby d25_79) rfl (flt hc41).2.1 (by decide) (by decide) ?_
  refine Y.iload X40 hx (hb hby d25_95) rfl ?_
  refine Y.sipush X40 hx (hb hby d25_97) ?_
  by_cases hc44 : c1 < (2048 : Int32)
  refine Y.icmpNo X40 hx (hb hby d25_100) rfl (tlt hc44).2.1 ?_
  refine Y.aload X40 hx (hb hby d25_103) rfl rfl ?_
  refine Y.iloadN X40 hx (hb hby d25_105) rfl ?_
  refine Y.iinc X40 hx (hb hby d25_106) rfl (l' := #[.val (.ref a1), .val (.int (1 : Int32)), .val (.int (4 : Int32)), .val (.int (2 : Int32)), .val (.int (2 : Int32)), .val (.ref b1), .val (.int c1), .unset, .unset]) rfl ?_
  refine Y.sipush X40 hx (hb hby d25_109) ?_
  refine Y.iload X40 hx (hb hby d25_112) rfl ?_
  refine Y.bipush X40 hx (hb hby d25_114) ?_
  refine Y.ishr X40 hx (hb hby d25_116) rfl ?_
  refine Y.ior X40 hx (hb hby d25_117) rfl ?_
  refine Y.i2b X40 hx (hb hby d25_118) rfl ?_
  obtain ⟨T45, h45, X45, e45, W45, V45, st45⟩ := own_stB X40 hx hZ e40 V_b1 (j := (3 : Int32)) (i := 3) (by decide) (by decide) (Nat.lt_of_lt_of_eq (by decide : 3 < 6) rfl) (g := (mkF m 119 #[.val (.ref a1), .val (.int (1 : Int32)), .val (.int (4 : Int32)), .val (.int (2 : Int32)), .val (.int (2 : Int32)), .val (.ref b1), .val (.int c1), .unset, .unset] [(.int (((192 : Int32) ||| (c1 >>> ((6 : Int32) &&& 31))).toInt8.toInt32)), (.int (3 : Int32)), (.ref b1)])) rfl rfl (hb hby d25_119)
  refine Gl.pre (fun _ k => st45 _ k) ?_
  have V_a1 := V_a1.other W45 (own_ne_a1_b1)
  have O_ := O_.wr W45 g_b1
  have Z45 : n0 ≤ h45.size := by rw [W45.size]; exact Z39
  have N45 := Fr.snoc X45 N40 g_b1
  have K45 := K39.wr W45 (Or.inr sz_b1)
  have V_b1 : Bal Z h45 b1 .byte [(nar .byte (((224 : Int32) ||| (c0 >>> ((12 : Int32) &&& 31))).toInt8.toInt32)), (nar .byte (((128 : Int32) ||| ((c0 >>> ((6 : Int32) &&& 31)) &&& (63 : Int32))).toInt8.toInt32)), (nar .byte (((128 : Int32) ||| (c0 &&& (63 : Int32))).toInt8.toInt32)), (nar .byte (((192 : Int32) ||| (c1 >>> ((6 : Int32) &&& 31))).toInt8.toInt32)), (0 : Int32), (0 : Int32)] := V45
  refine Y.aload X45 hx (hb hby d25_120) rfl rfl ?_
  refine Y.iloadN X45 hx (hb hby d25_122) rfl ?_
  refine Y.iinc X45 hx (hb hby d25_123) rfl (l' := #[.val (.ref a1), .val (.int (1 : Int32)), .val (.int (5 : Int32)), .val (.int (2 : Int32)), .val (.int (2 : Int32)), .val (.ref b1), .val (.int c1), .unset, .unset]) rfl ?_
  refine Y.sipush X45 hx (hb hby d25_126) ?_
  refine Y.iload X45 hx (hb hby d25_129) rfl ?_
  refine Y.bipush X45 hx (hb hby d25_131) ?_
  refine Y.iand X45 hx (hb hby d25_133) rfl ?_
  refine Y.ior X45 hx (hb hby d25_134) rfl ?_
  refine Y.i2b X45 hx (hb hby d25_135) rfl ?_
  obtain ⟨T46, h46, X46, e46, W46, V46, st46⟩ := own_stB X45 hx hZ e45 V_b1 (j := (4 : Int32)) (i := 4) (by decide) (by decide) (Nat.lt_of_lt_of_eq (by decide : 4 < 6) rfl) (g := (mkF m 136 #[.val (.ref a1), .val (.int (1 : Int32)), .val (.int (5 : Int32)), .val (.int (2 : Int32)), .val (.int (2 : Int32)), .val (.ref b1), .val (.int c1), .unset, .unset] [(.int (((128 : Int32) ||| (c1 &&& (63 : Int32))).toInt8.toInt32)), (.int (4 : Int32)), (.ref b1)])) rfl rfl (hb hby d25_136)
  refine Gl.pre (fun _ k => st46 _ k) ?_
  have V_a1 := V_a1.other W46 (own_ne_a1_b1)
  have O_ := O_.wr W46 g_b1
  have Z46 : n0 ≤ h46.size := by rw [W46.size]; exact Z45
  have N46 := Fr.snoc X46 N45 g_b1
  have K46 := K45.wr W46 (Or.inr sz_b1)
  have V_b1 : Bal Z h46 b1 .byte [(nar .byte (((224 : Int32) ||| (c0 >>> ((12 : Int32) &&& 31))).toInt8.toInt32)), (nar .byte (((128 : Int32) ||| ((c0 >>> ((6 : Int32) &&& 31)) &&& (63 : Int32))).toInt8.toInt32)), (nar .byte (((128 : Int32) ||| (c0 &&& (63 : Int32))).toInt8.toInt32)), (nar .byte (((192 : Int32) ||| (c1 >>> ((6 : Int32) &&& 31))).toInt8.toInt32)), (nar .byte (((128 : Int32) ||| (c1 &&& (63 : Int32))).toInt8.toInt32)), (0 : Int32)] := V46
  refine Y.goto X46 hx (pc0 := 137) (pc' := 352) rfl (hb hby d25_137) (by decide) (by decide) ?_
  refine Y.goto X46 hx (pc0 := 352) (pc' := 58) rfl (hb hby d25_352) (by decide) (by decide) ?_
  refine Y.iloadN X46 hx (hb hby d25_58) rfl ?_
  refine Y.iload X46 hx (hb hby d25_59) rfl ?_
  refine Y.icmpYes X46 hx (pc0 := 61) (pc' := 355) rfl (hb hby d25_61) rfl (flt (show ¬ ((2 : Int32) < (2 : Int32)) from (by decide))).2.1 (by decide) (by decide) ?_
  refine Y.iloadN X46 hx (hb hby d25_355) rfl ?_
  refine Y.aload X46 hx (hb hby d25_356) rfl rfl ?_
  refine Gl.pre (fun _ k => own_len X46 hx hZ e46 V_b1 (v := (6 : Int32)) rfl (g := (mkF m 358 #[.val (.ref a1), .val (.int (1 : Int32)), .val (.int (5 : Int32)), .val (.int (2 : Int32)), .val (.int (2 : Int32)), .val (.ref b1), .val (.int c1), .unset, .unset] [(.ref b1), (.int (5 : Int32))])) rfl rfl (hb hby d25_358) _ k) ?_
  refine Y.icmpYes X46 hx (pc0 := 359) (pc' := 365) rfl (hb hby d25_359) rfl (feq (show ¬ ((5 : Int32) = (6 : Int32)) from (by decide))).2 (by decide) (by decide) ?_
  refine Y.aload X46 hx (hb hby d25_365) rfl rfl ?_
  refine Y.iloadN X46 hx (hb hby d25_367) rfl ?_
  obtain ⟨_, _, ⟨T47, L47, k47, n47⟩, -, X47, ⟨Lc47, hQ47, l47, y47, z47⟩, st47⟩ := Jvm.LawKit.callS X46 hx (y := (⟨"java/util/Arrays", "copyOf", "([BI)[B"⟩ : MethodName)) hown (mvT hZ (W 129 rfl)) (mvT hZ (W 130 rfl)) (mvT hZ (W 131 rfl)) (mvT hZ (W 132 rfl)) (by decide) (backOf (W := 0) (rmco6_5 l Z a0 hw [] b1 (nar .byte (((224 : Int32) ||| (c0 >>> ((12 : Int32) &&& 31))).toInt8.toInt32)) (nar .byte (((128 : Int32) ||| ((c0 >>> ((6 : Int32) &&& 31)) &&& (63 : Int32))).toInt8.toInt32)) (nar .byte (((128 : Int32) ||| (c0 &&& (63 : Int32))).toInt8.toInt32)) (nar .byte (((192 : Int32) ||| (c1 >>> ((6 : Int32) &&& 31))).toInt8.toInt32)) (nar .byte (((128 : Int32) ||| (c1 &&& (63 : Int32))).toInt8.toInt32)) (0 : Int32) h46 n0 Z46 V_b1 (by intro x hx; simp only [List.mem_cons, List.not_mem_nil, or_false] at hx; rcases hx with rfl | rfl | rfl | rfl | rfl | rfl <;> first | exact fits_nar_byte _ | rfl)) hZ (W 132 rfl) (W 131 rfl) (by decide) (by decide)) (g := (mkF m 368 #[.val (.ref a1), .val (.int (1 : Int32)), .val (.int (5 : Int32)), .val (.int (2 : Int32)), .val (.int (2 : Int32)), .val (.ref b1), .val (.int c1), .unset, .unset] [(.int (5 : Int32)), (.ref b1)])) rfl (by rw [hml]; rfl) (argsL := [(.ref b1), (.int (5 : Int32))]) (rest := []) (lenOf pd_10 rfl) rfl (by show 2 * 0 + _ ≤ _; exact Nat.le_of_eq rfl) (hb hby d25_368) (fun _ _ => ⟨rfl, e46, (by decide : 1 + 1 ≤ _), (by decide : 6 + 5 ≤ _)⟩)
  dsimp only [Pt.U, Pt.locs, Pt.cells, Pt.slots] at X47 l47 y47 z47 st47 hQ47
  subst l47 y47 z47
  obtain ⟨bo47, rfl, N47q, hz47, K47, V47q⟩ := hQ47
  have N47 := Fr.app N46 N47q
  refine Gl.pre (fun _ k => st47 _ k) ?_
  have own_ne_a1_bo47 : a1 ≠ bo47 := Nat.ne_of_lt (Nat.lt_of_lt_of_le V_a1.lt hz47)
  have own_ne_bo47_a1 := own_ne_a1_bo47.symm
  have own_ne_b1_bo47 : b1 ≠ bo47 := Nat.ne_of_lt (Nat.lt_of_lt_of_le V_b1.lt hz47)
  have own_ne_bo47_b1 := own_ne_b1_bo47.symm
  have g_bo47 : n0 ≤ bo47 := Nat.le_trans Z46 hz47
  have sz_bo47 : h0.size ≤ bo47 := Nat.le_trans K46.1 hz47
  have V_a1 := V_a1.keep K47 nin0
  have O_ := O_.keep K47 all0
  have V_b1 := V_b1.keep K47 nin0
  have Z47 : n0 ≤ T47.heap.size := Nat.le_trans Z46 K47.1
  have K47k := K46.trans K47 all0
  have V_bo47 := V47q
  rw [hPP]
  refine own_finA (Q := (Que2 Z a1 c0 c1 h0 n0)) X47 hx hlk Bd.returns rfl rfl (hb hby d25_371) ?_ (by decide) (by decide)
  show Que2 Z a1 c0 c1 h0 n0 _ T47.heap _
  refine ⟨bo47, rfl, N47, sz_bo47, K47k, ?_⟩
  rw [own_ue2, own_u1c hc3 hc20, own_u1b hc41 hc44]; simp only [List.cons_append, List.nil_append]; exact V_bo47
  refine Y.icmpYes X40 hx (pc0 := 100) (pc' := 140) rfl (hb hby d25_100) rfl (flt hc44).2.1 (by decide) (by decide) ?_
  refine Y.iload X40 hx (hb hby d25_140) rfl ?_
  obtain ⟨_, _, ⟨T48, L48, k48, n48⟩, -, X48, ⟨Lc48, hQ48, l48, y48, z48⟩, st48⟩ := Jvm.LawKit.callS X40 hx (y := (⟨"java/lang/Character", "isSurrogate", "(C)Z"⟩ : MethodName)) hown (mvT hZ (W 122 rfl)) (mvT hZ (W 123 rfl)) (mvT hZ (W 124 rfl)) (mvT hZ (W 125 rfl)) (by decide) (backOf (W := 0) (rmiss l Z a0 hw [] c1 h39 n0 Z39 hn1) hZ (W 125 rfl) (W 124 rfl) (by decide) (by decide)) (g := (mkF m 142 #[.val (.ref a1), .val (.int (1 : Int32)), .val (.int (3 : Int32)), .val (.int (2 : Int32)), .val (.int (2 : Int32)), .val (.ref b1), .val (.int c1), .unset, .unset] [(.int c1)])) rfl (by rw [hml]; rfl) (argsL := [(.int c1)]) (rest := []) (lenOf pd_11 rfl) rfl (by show 2 * 0 + _ ≤ _; exact Nat.le_of_eq rfl) (hb hby d25_142) (fun _ _ => ⟨rfl, e40, (by decide : 1 + 0 ≤ _), (by decide : 6 + 0 ≤ _)⟩)
  dsimp only [Pt.U, Pt.locs, Pt.cells, Pt.slots] at X48 l48 y48 z48 st48 hQ48
  subst l48 y48 z48
  obtain ⟨rfl, N48q, e48⟩ := hQ48
  have N48 := Fr.app N40 N48q
  refine Gl.pre (fun _ k => st48 _ k) ?_
  refine Y.ifYes X48 hx (pc0 := 145) (pc' := 298) rfl (hb hby d25_145) rfl ((if0 _ _).trans (teq (show (0 : Int32) = (0 : Int32) from (by decide))).1) (by decide) (by decide) ?_
  refine Y.aload X48 hx (hb hby d25_298) rfl rfl ?_
  refine Y.iloadN X48 hx (hb hby d25_300) rfl ?_
  refine Y.iinc X48 hx (hb hby d25_301) rfl (l' := #[.val (.ref a1), .val (.int (1 : Int32)), .val (.int (4 : Int32)), .val (.int (2 : Int32)), .val (.int (2 : Int32)), .val (.ref b1), .val (.int c1), .unset, .unset]) rfl ?_
  refine Y.sipush X48 hx (hb hby d25_304) ?_
  refine Y.iload X48 hx (hb hby d25_307) rfl ?_
  refine Y.bipush X48 hx (hb hby d25_309) ?_
  refine Y.ishr X48 hx (hb hby d25_311) rfl ?_
  refine Y.ior X48 hx (hb hby d25_312) rfl ?_
  refine Y.i2b X48 hx (hb hby d25_313) rfl ?_
  obtain ⟨T49, h49, X49, e49, W49, V49, st49⟩ := own_stB X48 hx hZ e48 V_b1 (j := (3 : Int32)) (i := 3) (by decide) (by decide) (Nat.lt_of_lt_of_eq (by decide : 3 < 6) rfl) (g := (mkF m 314 #[.val (.ref a1), .val (.int (1 : Int32)), .val (.int (4 : Int32)), .val (.int (2 : Int32)), .val (.int (2 : Int32)), .val (.ref b1), .val (.int c1), .unset, .unset] [(.int (((224 : Int32) ||| (c1 >>> ((12 : Int32) &&& 31))).toInt8.toInt32)), (.int (3 : Int32)), (.ref b1)])) rfl rfl (hb hby d25_314)
  refine Gl.pre (fun _ k => st49 _ k) ?_
  have V_a1 := V_a1.other W49 (own_ne_a1_b1)
  have O_ := O_.wr W49 g_b1
  have Z49 : n0 ≤ h49.size := by rw [W49.size]; exact Z39
  have N49 := Fr.snoc X49 N48 g_b1
  have K49 := K39.wr W49 (Or.inr sz_b1)
  have V_b1 : Bal Z h49 b1 .byte [(nar .byte (((224 : Int32) ||| (c0 >>> ((12 : Int32) &&& 31))).toInt8.toInt32)), (nar .byte (((128 : Int32) ||| ((c0 >>> ((6 : Int32) &&& 31)) &&& (63 : Int32))).toInt8.toInt32)), (nar .byte (((128 : Int32) ||| (c0 &&& (63 : Int32))).toInt8.toInt32)), (nar .byte (((224 : Int32) ||| (c1 >>> ((12 : Int32) &&& 31))).toInt8.toInt32)), (0 : Int32), (0 : Int32)] := V49
  refine Y.aload X49 hx (hb hby d25_315) rfl rfl ?_
  refine Y.iloadN X49 hx (hb hby d25_317) rfl ?_
  refine Y.iinc X49 hx (hb hby d25_318) rfl (l' := #[.val (.ref a1), .val (.int (1 : Int32)), .val (.int (5 : Int32)), .val (.int (2 : Int32)), .val (.int (2 : Int32)), .val (.ref b1), .val (.int c1), .unset, .unset]) rfl ?_
  refine Y.sipush X49 hx (hb hby d25_321) ?_
  refine Y.iload X49 hx (hb hby d25_324) rfl ?_
  refine Y.bipush X49 hx (hb hby d25_326) ?_
  refine Y.ishr X49 hx (hb hby d25_328) rfl ?_
  refine Y.bipush X49 hx (hb hby d25_329) ?_
  refine Y.iand X49 hx (hb hby d25_331) rfl ?_
  refine Y.ior X49 hx (hb hby d25_332) rfl ?_
  refine Y.i2b X49 hx (hb hby d25_333) rfl ?_
  obtain ⟨T50, h50, X50, e50, W50, V50, st50⟩ := own_stB X49 hx hZ e49 V_b1 (j := (4 : Int32)) (i := 4) (by decide) (by decide) (Nat.lt_of_lt_of_eq (by decide : 4 < 6) rfl) (g := (mkF m 334 #[.val (.ref a1), .val (.int (1 : Int32)), .val (.int (5 : Int32)), .val (.int (2 : Int32)), .val (.int (2 : Int32)), .val (.ref b1), .val (.int c1), .unset, .unset] [(.int (((128 : Int32) ||| ((c1 >>> ((6 : Int32) &&& 31)) &&& (63 : Int32))).toInt8.toInt32)), (.int (4 : Int32)), (.ref b1)])) rfl rfl (hb hby d25_334)
  refine Gl.pre (fun _ k => st50 _ k) ?_
  have V_a1 := V_a1.other W50 (own_ne_a1_b1)
  have O_ := O_.wr W50 g_b1
  have Z50 : n0 ≤ h50.size := by rw [W50.size]; exact Z49
  have N50 := Fr.snoc X50 N49 g_b1
  have K50 := K49.wr W50 (Or.inr sz_b1)
  have V_b1 : Bal Z h50 b1 .byte [(nar .byte (((224 : Int32) ||| (c0 >>> ((12 : Int32) &&& 31))).toInt8.toInt32)), (nar .byte (((128 : Int32) ||| ((c0 >>> ((6 : Int32) &&& 31)) &&& (63 : Int32))).toInt8.toInt32)), (nar .byte (((128 : Int32) ||| (c0 &&& (63 : Int32))).toInt8.toInt32)), (nar .byte (((224 : Int32) ||| (c1 >>> ((12 : Int32) &&& 31))).toInt8.toInt32)), (nar .byte (((128 : Int32) ||| ((c1 >>> ((6 : Int32) &&& 31)) &&& (63 : Int32))).toInt8.toInt32)), (0 : Int32)] := V50
  refine Y.aload X50 hx (hb hby d25_335) rfl rfl ?_
  refine Y.iloadN X50 hx (hb hby d25_337) rfl ?_
  refine Y.iinc X50 hx (hb hby d25_338) rfl (l' := #[.val (.ref a1), .val (.int (1 : Int32)), .val (.int (6 : Int32)), .val (.int (2 : Int32)), .val (.int (2 : Int32)), .val (.ref b1), .val (.int c1), .unset, .unset]) rfl ?_
  refine Y.sipush X50 hx (hb hby d25_341) ?_
  refine Y.iload X50 hx (hb hby d25_344) rfl ?_
  refine Y.bipush X50 hx (hb hby d25_346) ?_
  refine Y.iand X50 hx (hb hby d25_348) rfl ?_
  refine Y.ior X50 hx (hb hby d25_349) rfl ?_
  refine Y.i2b X50 hx (hb hby d25_350) rfl ?_
  obtain ⟨T51, h51, X51, e51, W51, V51, st51⟩ := own_stB X50 hx hZ e50 V_b1 (j := (5 : Int32)) (i := 5) (by decide) (by decide) (Nat.lt_of_lt_of_eq (by decide : 5 < 6) rfl) (g := (mkF m 351 #[.val (.ref a1), .val (.int (1 : Int32)), .val (.int (6 : Int32)), .val (.int (2 : Int32)), .val (.int (2 : Int32)), .val (.ref b1), .val (.int c1), .unset, .unset] [(.int (((128 : Int32) ||| (c1 &&& (63 : Int32))).toInt8.toInt32)), (.int (5 : Int32)), (.ref b1)])) rfl rfl (hb hby d25_351)
  refine Gl.pre (fun _ k => st51 _ k) ?_
  have V_a1 := V_a1.other W51 (own_ne_a1_b1)
  have O_ := O_.wr W51 g_b1
  have Z51 : n0 ≤ h51.size := by rw [W51.size]; exact Z50
  have N51 := Fr.snoc X51 N50 g_b1
  have K51 := K50.wr W51 (Or.inr sz_b1)
  have V_b1 : Bal Z h51 b1 .byte [(nar .byte (((224 : Int32) ||| (c0 >>> ((12 : Int32) &&& 31))).toInt8.toInt32)), (nar .byte (((128 : Int32) ||| ((c0 >>> ((6 : Int32) &&& 31)) &&& (63 : Int32))).toInt8.toInt32)), (nar .byte (((128 : Int32) ||| (c0 &&& (63 : Int32))).toInt8.toInt32)), (nar .byte (((224 : Int32) ||| (c1 >>> ((12 : Int32) &&& 31))).toInt8.toInt32)), (nar .byte (((128 : Int32) ||| ((c1 >>> ((6 : Int32) &&& 31)) &&& (63 : Int32))).toInt8.toInt32)), (nar .byte (((128 : Int32) ||| (c1 &&& (63 : Int32))).toInt8.toInt32))] := V51
  refine Y.goto X51 hx (pc0 := 352) (pc' := 58) rfl (hb hby d25_352) (by decide) (by decide) ?_
  refine Y.iloadN X51 hx (hb hby d25_58) rfl ?_
  refine Y.iload X51 hx (hb hby d25_59) rfl ?_
  refine Y.icmpYes X51 hx (pc0 := 61) (pc' := 355) rfl (hb hby d25_61) rfl (flt (show ¬ ((2 : Int32) < (2 : Int32)) from (by decide))).2.1 (by decide) (by decide) ?_
  refine Y.iloadN X51 hx (hb hby d25_355) rfl ?_
  refine Y.aload X51 hx (hb hby d25_356) rfl rfl ?_
  refine Gl.pre (fun _ k => own_len X51 hx hZ e51 V_b1 (v := (6 : Int32)) rfl (g := (mkF m 358 #[.val (.ref a1), .val (.int (1 : Int32)), .val (.int (6 : Int32)), .val (.int (2 : Int32)), .val (.int (2 : Int32)), .val (.ref b1), .val (.int c1), .unset, .unset] [(.ref b1), (.int (6 : Int32))])) rfl rfl (hb hby d25_358) _ k) ?_
  refine Y.icmpNo X51 hx (hb hby d25_359) rfl (teq (show (6 : Int32) = (6 : Int32) from (by decide))).2 ?_
  refine Y.aload X51 hx (hb hby d25_362) rfl rfl ?_
  rw [hPP]
  refine own_finA (Q := (Que2 Z a1 c0 c1 h0 n0)) X51 hx hlk Bd.returns rfl rfl (hb hby d25_364) ?_ (by decide) (by decide)
  show Que2 Z a1 c0 c1 h0 n0 _ T51.heap _
  rw [e51]
  refine ⟨b1, rfl, N51, sz_b1, K51, ?_⟩
  rw [own_ue2, own_u1c hc3 hc20, own_u1c hc41 hc44]; simp only [List.cons_append, List.nil_append]; exact V_b1
theorem d14_0 : decode jdk_42_method_46_code 0 = .ok (.iload_n 0, 1) := by decide +kernel
theorem d14_1 : decode jdk_42_method_46_code 1 = .ok (.iconst 1, 1) := by decide +kernel
theorem d14_2 : decode jdk_42_method_46_code 2 = .ok (.if_icmp .ne 9, 3) := by decide +kernel
theorem d14_5 : decode jdk_42_method_46_code 5 = .ok (.aload_n 1, 1) := by decide +kernel
theorem d14_6 : decode jdk_42_method_46_code 6 = .ok (.iload_n 2, 1) := by decide +kernel
theorem d14_7 : decode jdk_42_method_46_code 7 = .ok (.invokestatic 473, 3) := by decide +kernel
theorem d14_10 : decode jdk_42_method_46_code 10 = .ok (.areturn, 1) := by decide +kernel
theorem d14_11 : decode jdk_42_method_46_code 11 = .ok (.aload_n 1, 1) := by decide +kernel
theorem d14_12 : decode jdk_42_method_46_code 12 = .ok (.iconst 0, 1) := by decide +kernel
theorem d14_13 : decode jdk_42_method_46_code 13 = .ok (.aload_n 1, 1) := by decide +kernel
theorem d14_14 : decode jdk_42_method_46_code 14 = .ok (.arraylength, 1) := by decide +kernel
theorem d14_15 : decode jdk_42_method_46_code 15 = .ok (.invokestatic 128, 3) := by decide +kernel
theorem d14_18 : decode jdk_42_method_46_code 18 = .ok (.ifCond .ne 11, 3) := by decide +kernel
theorem d14_21 : decode jdk_42_method_46_code 21 = .ok (.aload_n 1, 1) := by decide +kernel
theorem d14_22 : decode jdk_42_method_46_code 22 = .ok (.invokevirtual 279, 3) := by decide +kernel
theorem d14_25 : decode jdk_42_method_46_code 25 = .ok (.checkcast 280, 3) := by decide +kernel
theorem d14_28 : decode jdk_42_method_46_code 28 = .ok (.areturn, 1) := by decide +kernel
theorem d14_29 : decode jdk_42_method_46_code 29 = .ok (.iconst 0, 1) := by decide +kernel
theorem d14_30 : decode jdk_42_method_46_code 30 = .ok (.istore_n 3, 1) := by decide +kernel
theorem d14_31 : decode jdk_42_method_46_code 31 = .ok (.aload_n 1, 1) := by decide +kernel
theorem d14_32 : decode jdk_42_method_46_code 32 = .ok (.arraylength, 1) := by decide +kernel
theorem d14_33 : decode jdk_42_method_46_code 33 = .ok (.invokestatic 60, 3) := by decide +kernel
theorem d14_36 : decode jdk_42_method_46_code 36 = .ok (.astore 4, 2) := by decide +kernel
theorem d14_38 : decode jdk_42_method_46_code 38 = .ok (.aload_n 1, 1) := by decide +kernel
theorem d14_39 : decode jdk_42_method_46_code 39 = .ok (.astore 5, 2) := by decide +kernel
theorem d14_41 : decode jdk_42_method_46_code 41 = .ok (.aload 5, 2) := by decide +kernel
theorem d14_43 : decode jdk_42_method_46_code 43 = .ok (.arraylength, 1) := by decide +kernel
theorem d14_44 : decode jdk_42_method_46_code 44 = .ok (.istore 6, 2) := by decide +kernel
theorem d14_46 : decode jdk_42_method_46_code 46 = .ok (.iconst 0, 1) := by decide +kernel
theorem d14_47 : decode jdk_42_method_46_code 47 = .ok (.istore 7, 2) := by decide +kernel
theorem d14_49 : decode jdk_42_method_46_code 49 = .ok (.iload 7, 2) := by decide +kernel
theorem d14_51 : decode jdk_42_method_46_code 51 = .ok (.iload 6, 2) := by decide +kernel
theorem d14_53 : decode jdk_42_method_46_code 53 = .ok (.if_icmp .ge 71, 3) := by decide +kernel
theorem d14_56 : decode jdk_42_method_46_code 56 = .ok (.aload 5, 2) := by decide +kernel
theorem d14_58 : decode jdk_42_method_46_code 58 = .ok (.iload 7, 2) := by decide +kernel
theorem d14_60 : decode jdk_42_method_46_code 60 = .ok (.baload, 1) := by decide +kernel
theorem d14_61 : decode jdk_42_method_46_code 61 = .ok (.istore 8, 2) := by decide +kernel
theorem d14_63 : decode jdk_42_method_46_code 63 = .ok (.iload 8, 2) := by decide +kernel
theorem d14_65 : decode jdk_42_method_46_code 65 = .ok (.ifCond .ge 44, 3) := by decide +kernel
theorem d14_68 : decode jdk_42_method_46_code 68 = .ok (.aload 4, 2) := by decide +kernel
theorem d14_70 : decode jdk_42_method_46_code 70 = .ok (.iload_n 3, 1) := by decide +kernel
theorem d14_71 : decode jdk_42_method_46_code 71 = .ok (.iinc 3 1, 3) := by decide +kernel
theorem d14_74 : decode jdk_42_method_46_code 74 = .ok (.sipush 192, 3) := by decide +kernel
theorem d14_77 : decode jdk_42_method_46_code 77 = .ok (.iload 8, 2) := by decide +kernel
theorem d14_79 : decode jdk_42_method_46_code 79 = .ok (.sipush 255, 3) := by decide +kernel
theorem d14_82 : decode jdk_42_method_46_code 82 = .ok (.iand, 1) := by decide +kernel
theorem d14_83 : decode jdk_42_method_46_code 83 = .ok (.bipush 6, 2) := by decide +kernel
theorem d14_85 : decode jdk_42_method_46_code 85 = .ok (.ishr, 1) := by decide +kernel
theorem d14_86 : decode jdk_42_method_46_code 86 = .ok (.ior, 1) := by decide +kernel
theorem d14_87 : decode jdk_42_method_46_code 87 = .ok (.i2b, 1) := by decide +kernel
theorem d14_88 : decode jdk_42_method_46_code 88 = .ok (.bastore, 1) := by decide +kernel
theorem d14_89 : decode jdk_42_method_46_code 89 = .ok (.aload 4, 2) := by decide +kernel
theorem d14_91 : decode jdk_42_method_46_code 91 = .ok (.iload_n 3, 1) := by decide +kernel
theorem d14_92 : decode jdk_42_method_46_code 92 = .ok (.iinc 3 1, 3) := by decide +kernel
theorem d14_95 : decode jdk_42_method_46_code 95 = .ok (.sipush 128, 3) := by decide +kernel
theorem d14_98 : decode jdk_42_method_46_code 98 = .ok (.iload 8, 2) := by decide +kernel
theorem d14_100 : decode jdk_42_method_46_code 100 = .ok (.bipush 63, 2) := by decide +kernel
theorem d14_102 : decode jdk_42_method_46_code 102 = .ok (.iand, 1) := by decide +kernel
theorem d14_103 : decode jdk_42_method_46_code 103 = .ok (.ior, 1) := by decide +kernel
theorem d14_104 : decode jdk_42_method_46_code 104 = .ok (.i2b, 1) := by decide +kernel
theorem d14_105 : decode jdk_42_method_46_code 105 = .ok (.bastore, 1) := by decide +kernel
theorem d14_106 : decode jdk_42_method_46_code 106 = .ok (.goto 12, 3) := by decide +kernel
theorem d14_109 : decode jdk_42_method_46_code 109 = .ok (.aload 4, 2) := by decide +kernel
theorem d14_111 : decode jdk_42_method_46_code 111 = .ok (.iload_n 3, 1) := by decide +kernel
theorem d14_112 : decode jdk_42_method_46_code 112 = .ok (.iinc 3 1, 3) := by decide +kernel
theorem d14_115 : decode jdk_42_method_46_code 115 = .ok (.iload 8, 2) := by decide +kernel
theorem d14_117 : decode jdk_42_method_46_code 117 = .ok (.bastore, 1) := by decide +kernel
theorem d14_118 : decode jdk_42_method_46_code 118 = .ok (.iinc 7 1, 3) := by decide +kernel
theorem d14_121 : decode jdk_42_method_46_code 121 = .ok (.goto (-72), 3) := by decide +kernel
theorem d14_124 : decode jdk_42_method_46_code 124 = .ok (.iload_n 3, 1) := by decide +kernel
theorem d14_125 : decode jdk_42_method_46_code 125 = .ok (.aload 4, 2) := by decide +kernel
theorem d14_127 : decode jdk_42_method_46_code 127 = .ok (.arraylength, 1) := by decide +kernel
theorem d14_128 : decode jdk_42_method_46_code 128 = .ok (.if_icmp .ne 6, 3) := by decide +kernel
theorem d14_131 : decode jdk_42_method_46_code 131 = .ok (.aload 4, 2) := by decide +kernel
theorem d14_133 : decode jdk_42_method_46_code 133 = .ok (.areturn, 1) := by decide +kernel
theorem d14_134 : decode jdk_42_method_46_code 134 = .ok (.aload 4, 2) := by decide +kernel
theorem d14_136 : decode jdk_42_method_46_code 136 = .ok (.iload_n 3, 1) := by decide +kernel
theorem d14_137 : decode jdk_42_method_46_code 137 = .ok (.invokestatic 102, 3) := by decide +kernel
theorem d14_140 : decode jdk_42_method_46_code 140 = .ok (.areturn, 1) := by decide +kernel
theorem pn_14 : plainName "java/lang/String" = true := by first | (simp [plainName, overriddenIn]; done) | decide +kernel
theorem ef_eu (m : MethodId) (co : Int32) (a2 : Addr) (xs : List Int32) (ys : List Int32) : entryFrame m #[(.int co), (.ref a2), (.int (1 : Int32))] 9 = mkF m 0 #[.val (.int co), .val (.ref a2), .val (.int (1 : Int32)), .unset, .unset, .unset, .unset, .unset, .unset] [] := by first | (simp [entryFrame, mkF, argsToLocals, Value.category]; done) | rfl
def Qeu (Z : State) (co : Int32) (a2 : Addr) (xs : List Int32) (ys : List Int32) (h0 : Heap) (n0 : Nat) (v : Option Value) (h : Heap) (L : List Loc) : Prop := ∃ b : Addr, v = some (.ref b) ∧ Fr n0 L ∧ h0.size ≤ b ∧ Keep h0 h [] ∧ Bal Z h b .byte (own_u xs)
set_option maxRecDepth 65536 in
set_option maxHeartbeats 40000000 in
theorem rmeu (l : Launch) (Z : State) (a0 : Array Value) (hw : ∀ d ∈ tables_1, d.before a0 Z = true) (ws : List Jvm.Cond) (co : Int32) (a2 : Addr) (xs : List Int32) (ys : List Int32) (h0 : Heap) (n0 : Nat) (Z0 : n0 ≤ h0.size) (V_a2 : Bal Z h0 a2 .byte ys) (E_a2 : Exa Z h0 a2 "[B") (hrep : own_rep xs co ys) (hsd : ∀ c ∈ xs, c < (55296 : Int32) ∨ ¬ (c < (57344 : Int32))) (SAD : Sta Z Z.heap "java/lang/StringUTF16" "$assertionsDisabled" "Z" (.int (1 : Int32))) (SHI : Sta Z Z.heap "java/lang/StringUTF16" "HI_BYTE_SHIFT" "I" (.int (0 : Int32))) (SLO : Sta Z Z.heap "java/lang/StringUTF16" "LO_BYTE_SHIFT" "I" (.int (8 : Int32))) (O_ : Old Z n0 h0) :
    MetFree l (⟨"java/lang/String", "encodeUTF8", "(B[BZ)[B"⟩ : MethodName) (head1 (Jvm.Cond.code (⟨"java/lang/String", "encodeUTF8", "(B[BZ)[B"⟩ : MethodName) jdk_42_method_46_code 9 (some (.array .byte)) :: ws) ({ frames := 3, cells := 2, slots := 11, locals := 52 } : Room)) (fun a U => a = #[(.int co), (.ref a2), (.int (1 : Int32))] ∧ Z.Warmed39 U.vm ∧ U.heap = h0) (fun _ _ _ _ _ => True) (fun _ U o U' => ∃ v L, o = .returned v ∧ Qeu Z co a2 xs ys h0 n0 v U'.heap L ∧ FrameEnd U o U' L ({ frames := 3, cells := 2, slots := 11, locals := 52 } : Room).cells ({ frames := 3, cells := 2, slots := 11, locals := 52 } : Room).slots) := by
  have W := @own_wd Z a0 hw
  refine MetFree.of_bodySF (plainFor_of_name pn_14) hisR ?_
  intro p e s m args below meth c s₁ Bd hml0 hP hK
  obtain ⟨rfl, hZ, hh⟩ := hP
  have hx := Bd.exec
  have hby := Bd.bytes
  have hlk : meth.locks = false := BodyLoose.notSynchronized Bd
  have hml : c.maxLocals = 9 := hml0
  have hown : s.vm.findClass "java/lang/String" = some m.cls := findClass_of_methodNamed Bd.named
  have hnm := (name_of_methodNamed Bd.named Bd.method).1
  have X0 : Stand p l e ({ frames := 3, cells := 2, slots := 11, locals := 52 } : Room) s m #[(.int co), (.ref a2), (.int (1 : Int32))] below meth c s₁ [] 0 0 := Stand.of_body Bd
  have e0 : s₁.heap = h0 := by rw [← hh, Bd.state]; rfl
  have N0 := Fr.nil n0
  show Gl p.tables e below _ _
  refine Gl.pre (fun t k => castTop (ef_eu m co a2 xs ys) k) ?_
  refine Gl.gen (fun PP hPP => ?_)
  have K0 : Keep h0 h0 [] := Keep.refl h0 _
  show Gl p.tables e below PP (s₁.setTop (mkF m 0 #[.val (.int co), .val (.ref a2), .val (.int (1 : Int32)), .unset, .unset, .unset, .unset, .unset, .unset] []))
  rcases hrep with ⟨hxe, hce, hye⟩ | ⟨c0, hxe, hr0, hc0, hce, hye⟩ | ⟨c0, hxe, hr0, hc0, hce, hye⟩ | ⟨c0, c1, hxe, hr0, hr1, hc0, hc1, hce, hye⟩ | ⟨c0, c1, hxe, hr0, hr1, hce, hye⟩
  rw [hce]
  rw [hye] at V_a2
  show Gl p.tables e below PP (s₁.setTop (mkF m 0 #[.val (.int (0 : Int32)), .val (.ref a2), .val (.int (1 : Int32)), .unset, .unset, .unset, .unset, .unset, .unset] []))
  show Gl p.tables e below PP (s₁.setTop (mkF m 0 #[.val (.int (0 : Int32)), .val (.ref a2), .val (.int (1 : Int32)), .unset, .unset, .unset, .unset, .unset, .unset] []))
  refine Y.iloadN X0 hx (hb hby d14_0) rfl ?_
  refine Y.iconst X0 hx (hb hby d14_1) ?_
  refine Y.icmpYes X0 hx (pc0 := 2) (pc' := 11) rfl (hb hby d14_2) rfl (feq (show ¬ ((0 : Int32) = (1 : Int32)) from (by decide))).2 (by decide) (by decide) ?_
  refine Y.aloadN X0 hx (hb hby d14_11) rfl rfl ?_
  refine Y.iconst X0 hx (hb hby d14_12) ?_
  refine Y.aloadN X0 hx (hb hby d14_13) rfl rfl ?_
  refine Gl.pre (fun _ k => own_len X0 hx hZ e0 V_a2 (v := (0 : Int32)) rfl (g := (mkF m 14 #[.val (.int (0 : Int32)), .val (.ref a2), .val (.int (1 : Int32)), .unset, .unset, .unset, .unset, .unset, .unset] [(.ref a2), (.int (0 : Int32)), (.ref a2)])) rfl rfl (hb hby d14_14) _ k) ?_
  obtain ⟨_, _, ⟨T1, L1, k1, n1⟩, -, X1, ⟨Lc1, hQ1, l1, y1, z1⟩, st1⟩ := Jvm.LawKit.callS X0 hx (y := (⟨"java/lang/StringCoding", "hasNegatives", "([BII)Z"⟩ : MethodName)) hown (mvT hZ (W 69 rfl)) (mvT hZ (W 70 rfl)) (mvT hZ (W 71 rfl)) (mvT hZ (W 72 rfl)) (by decide) (backOf (W := 0) (rmhn0_0 l Z a0 hw [] a2 h0 n0 Z0 V_a2) hZ (W 72 rfl) (W 71 rfl) (by decide) (by decide)) (g := (mkF m 15 #[.val (.int (0 : Int32)), .val (.ref a2), .val (.int (1 : Int32)), .unset, .unset, .unset, .unset, .unset, .unset] [(.int (0 : Int32)), (.int (0 : Int32)), (.ref a2)])) rfl (by rw [hml]; rfl) (argsL := [(.ref a2), (.int (0 : Int32)), (.int (0 : Int32))]) (rest := []) (lenOf pd_12 rfl) rfl (by show 2 * 0 + _ ≤ _; exact Nat.le_of_eq rfl) (hb hby d14_15) (fun _ _ => ⟨rfl, e0, (by decide : 0 + 0 ≤ _), (by decide : 0 + 0 ≤ _)⟩)
  dsimp only [Pt.U, Pt.locs, Pt.cells, Pt.slots] at X1 l1 y1 z1 st1 hQ1
  subst l1 y1 z1
  obtain ⟨rfl, N1q, e1⟩ := hQ1
  have N1 := Fr.app N0 N1q
  refine Gl.pre (fun _ k => st1 _ k) ?_
  refine Y.ifNo X1 hx (hb hby d14_18) rfl ((if0 _ _).trans (teq (show (0 : Int32) = (0 : Int32) from (by decide))).2) ?_
  refine Y.aloadN X1 hx (hb hby d14_21) rfl rfl ?_
  obtain ⟨ka2, KA2⟩ := own_arvB V_a2 (by intro x hx; cases hx) (by show 0 < 2 ^ 31; decide)
  obtain ⟨T2, h2, X2, e2, E2, A2, B2, st2⟩ := cloneH X1 hx hZ hown (W 76 rfl) (W 77 rfl) (W 81 rfl) (W 79 rfl) (W 80 rfl) (W 82 rfl) e1 KA2.arh E_a2 (g := (mkF m 22 #[.val (.int (0 : Int32)), .val (.ref a2), .val (.int (1 : Int32)), .unset, .unset, .unset, .unset, .unset, .unset] [(.ref a2)])) rfl (by rw [hml]; rfl) rfl (hb hby d14_22) (by decide) (W := 0) (by show 2 * 0 + _ ≤ _; exact Nat.le_of_eq rfl) (by decide) (cap := 0) (by show (Nat.toInt32 0).toNatClampNeg ≤ 0; decide) (by decide) (by decide)
  obtain ⟨b2, g2⟩ : ∃ z, z = h0.size := ⟨_, rfl⟩
  rw [← g2] at A2 B2 st2
  refine Gl.pre (fun _ k => st2 _ k) ?_
  have own_ne_a2_b2 : a2 ≠ b2 := by have q := V_a2.lt; rw [g2]; exact Nat.ne_of_lt q
  have own_ne_b2_a2 : b2 ≠ a2 := own_ne_a2_b2.symm
  have g_b2 : n0 ≤ b2 := Nat.le_trans Z0 (Nat.le_of_eq g2.symm)
  have sz_b2 : h0.size ≤ b2 := Nat.le_trans K0.1 (Nat.le_of_eq g2.symm)
  have V_a2 := V_a2.ext E2
  have E_a2 := E_a2.ext E2
  have O_ := O_.ext E2
  have Z2 : n0 ≤ h2.size := Nat.le_trans Z0 E2.1
  have K2 := K0.ext E2
  have V_b2 : Bal Z h2 b2 .byte [] := own_balH A2 (by show 0 < 2 ^ 31; decide)
  have E_b2 := B2
  show Gl p.tables e below PP (T2.setTop (mkF m 25 #[.val (.int (0 : Int32)), .val (.ref a2), .val (.int (1 : Int32)), .unset, .unset, .unset, .unset, .unset, .unset] [(.ref b2)]))
  obtain ⟨T3, X3, e3, st3⟩ := castY X2 hx hZ hown (W 83 rfl) e2 (Ins.self E_b2) (g := (mkF m 25 #[.val (.int (0 : Int32)), .val (.ref a2), .val (.int (1 : Int32)), .unset, .unset, .unset, .unset, .unset, .unset] [(.ref b2)])) rfl rfl (hb hby d14_25)
  refine Gl.pre (fun _ k => st3 _ k) ?_
  show Gl p.tables e below PP (T3.setTop (mkF m 28 #[.val (.int (0 : Int32)), .val (.ref a2), .val (.int (1 : Int32)), .unset, .unset, .unset, .unset, .unset, .unset] [(.ref b2)]))
  rw [hPP]
  refine own_finA (Q := (Qeu Z co a2 xs ys h0 n0)) X3 hx hlk Bd.returns rfl rfl (hb hby d14_28) ?_ (by decide) (by decide)
  show Qeu Z co a2 xs ys h0 n0 _ T3.heap _
  rw [e3]
  refine ⟨b2, rfl, N1, sz_b2, K2, ?_⟩
  rw [hxe]
  exact V_b2
  rw [hce]
  rw [hye] at V_a2
  have hn0 : c0 < (55296 : Int32) ∨ ¬ (c0 < (57344 : Int32)) := hsd c0 (by rw [hxe]; simp)
  show Gl p.tables e below PP (s₁.setTop (mkF m 0 #[.val (.int (0 : Int32)), .val (.ref a2), .val (.int (1 : Int32)), .unset, .unset, .unset, .unset, .unset, .unset] []))
  by_cases hd0 : c0 < (128 : Int32)
  have hs0 := own_lbp hr0.1 hd0
  show Gl p.tables e below PP (s₁.setTop (mkF m 0 #[.val (.int (0 : Int32)), .val (.ref a2), .val (.int (1 : Int32)), .unset, .unset, .unset, .unset, .unset, .unset] []))
  refine Y.iloadN X0 hx (hb hby d14_0) rfl ?_
  refine Y.iconst X0 hx (hb hby d14_1) ?_
  refine Y.icmpYes X0 hx (pc0 := 2) (pc' := 11) rfl (hb hby d14_2) rfl (feq (show ¬ ((0 : Int32) = (1 : Int32)) from (by decide))).2 (by decide) (by decide) ?_
  refine Y.aloadN X0 hx (hb hby d14_11) rfl rfl ?_
  refine Y.iconst X0 hx (hb hby d14_12) ?_
  refine Y.aloadN X0 hx (hb hby d14_13) rfl rfl ?_
  refine Gl.pre (fun _ k => own_len X0 hx hZ e0 V_a2 (v := (1 : Int32)) rfl (g := (mkF m 14 #[.val (.int (0 : Int32)), .val (.ref a2), .val (.int (1 : Int32)), .unset, .unset, .unset, .unset, .unset, .unset] [(.ref a2), (.int (0 : Int32)), (.ref a2)])) rfl rfl (hb hby d14_14) _ k) ?_
  obtain ⟨_, _, ⟨T4, L4, k4, n4⟩, -, X4, ⟨Lc4, hQ4, l4, y4, z4⟩, st4⟩ := Jvm.LawKit.callS X0 hx (y := (⟨"java/lang/StringCoding", "hasNegatives", "([BII)Z"⟩ : MethodName)) hown (mvT hZ (W 69 rfl)) (mvT hZ (W 70 rfl)) (mvT hZ (W 71 rfl)) (mvT hZ (W 72 rfl)) (by decide) (backOf (W := 0) (rmhn1_1 l Z a0 hw [] a2 (nar .byte (c0.toInt8.toInt32)) h0 n0 Z0 V_a2 hs0) hZ (W 72 rfl) (W 71 rfl) (by decide) (by decide)) (g := (mkF m 15 #[.val (.int (0 : Int32)), .val (.ref a2), .val (.int (1 : Int32)), .unset, .unset, .unset, .unset, .unset, .unset] [(.int (1 : Int32)), (.int (0 : Int32)), (.ref a2)])) rfl (by rw [hml]; rfl) (argsL := [(.ref a2), (.int (0 : Int32)), (.int (1 : Int32))]) (rest := []) (lenOf pd_12 rfl) rfl (by show 2 * 0 + _ ≤ _; exact Nat.le_of_eq rfl) (hb hby d14_15) (fun _ _ => ⟨rfl, e0, (by decide : 0 + 0 ≤ _), (by decide : 0 + 0 ≤ _)⟩)
  dsimp only [Pt.U, Pt.locs, Pt.cells, Pt.slots] at X4 l4 y4 z4 st4 hQ4
  subst l4 y4 z4
  obtain ⟨rfl, N4q, e4⟩ := hQ4
  have N4 := Fr.app N0 N4q
  refine Gl.pre (fun _ k => st4 _ k) ?_
  refine Y.ifNo X4 hx (hb hby d14_18) rfl ((if0 _ _).trans (teq (show (0 : Int32) = (0 : Int32) from (by decide))).2) ?_
  refine Y.aloadN X4 hx (hb hby d14_21) rfl rfl ?_
  obtain ⟨ka5, KA5⟩ := own_arvB V_a2 (by intro x hx; simp only [List.mem_cons, List.not_mem_nil, or_false] at hx; rcases hx with rfl <;> first | exact fits_nar_byte _ | rfl) (by show 1 < 2 ^ 31; decide)
  obtain ⟨T5, h5, X5, e5, E5, A5, B5, st5⟩ := cloneH X4 hx hZ hown (W 76 rfl) (W 77 rfl) (W 81 rfl) (W 79 rfl) (W 80 rfl) (W 82 rfl) e4 KA5.arh E_a2 (g := (mkF m 22 #[.val (.int (0 : Int32)), .val (.ref a2), .val (.int (1 : Int32)), .unset, .unset, .unset, .unset, .unset, .unset] [(.ref a2)])) rfl (by rw [hml]; rfl) rfl (hb hby d14_22) (by decide) (W := 0) (by show 2 * 0 + _ ≤ _; exact Nat.le_of_eq rfl) (by decide) (cap := 1) (by show (Nat.toInt32 1).toNatClampNeg ≤ 1; decide) (by decide) (by decide)
  obtain ⟨b5, g5⟩ : ∃ z, z = h0.size := ⟨_, rfl⟩
  rw [← g5] at A5 B5 st5
  refine Gl.pre (fun _ k => st5 _ k) ?_
  have own_ne_a2_b5 : a2 ≠ b5 := by have q := V_a2.lt; rw [g5]; exact Nat.ne_of_lt q
  have own_ne_b5_a2 : b5 ≠ a2 := own_ne_a2_b5.symm
  have g_b5 : n0 ≤ b5 := Nat.le_trans Z0 (Nat.le_of_eq g5.symm)
  have sz_b5 : h0.size ≤ b5 := Nat.le_trans K0.1 (Nat.le_of_eq g5.symm)
  have V_a2 := V_a2.ext E5
  have E_a2 := E_a2.ext E5
  have O_ := O_.ext E5
  have Z5 : n0 ≤ h5.size := Nat.le_trans Z0 E5.1
  have K5 := K0.ext E5
  have V_b5 : Bal Z h5 b5 .byte [(nar .byte (c0.toInt8.toInt32))] := own_balH A5 (by show 1 < 2 ^ 31; decide)
  have E_b5 := B5
  show Gl p.tables e below PP (T5.setTop (mkF m 25 #[.val (.int (0 : Int32)), .val (.ref a2), .val (.int (1 : Int32)), .unset, .unset, .unset, .unset, .unset, .unset] [(.ref b5)]))
  obtain ⟨T6, X6, e6, st6⟩ := castY X5 hx hZ hown (W 83 rfl) e5 (Ins.self E_b5) (g := (mkF m 25 #[.val (.int (0 : Int32)), .val (.ref a2), .val (.int (1 : Int32)), .unset, .unset, .unset, .unset, .unset, .unset] [(.ref b5)])) rfl rfl (hb hby d14_25)
  refine Gl.pre (fun _ k => st6 _ k) ?_
  show Gl p.tables e below PP (T6.setTop (mkF m 28 #[.val (.int (0 : Int32)), .val (.ref a2), .val (.int (1 : Int32)), .unset, .unset, .unset, .unset, .unset, .unset] [(.ref b5)]))
  rw [hPP]
  refine own_finA (Q := (Qeu Z co a2 xs ys h0 n0)) X6 hx hlk Bd.returns rfl rfl (hb hby d14_28) ?_ (by decide) (by decide)
  show Qeu Z co a2 xs ys h0 n0 _ T6.heap _
  rw [e6]
  refine ⟨b5, rfl, N4, sz_b5, K5, ?_⟩
  rw [hxe]
  rw [own_ue1, own_u1a hd0]
  exact V_b5
  have hs0 := own_lbn hc0 hd0
  show Gl p.tables e below PP (s₁.setTop (mkF m 0 #[.val (.int (0 : Int32)), .val (.ref a2), .val (.int (1 : Int32)), .unset, .unset, .unset, .unset, .unset, .unset] []))
  refine Y.iloadN X0 hx (hb hby d14_0) rfl ?_
  refine Y.iconst X0 hx (hb hby d14_1) ?_
  refine Y.icmpYes X0 hx (pc0 := 2) (pc' := 11) rfl (hb hby d14_2) rfl (feq (show ¬ ((0 : Int32) = (1 : Int32)) from (by decide))).2 (by decide) (by decide) ?_
  refine Y.aloadN X0 hx (hb hby d14_11) rfl rfl ?_
  refine Y.iconst X0 hx (hb hby d14_12) ?_
  refine Y.aloadN X0 hx (hb hby d14_13) rfl rfl ?_
  refine Gl.pre (fun _ k => own_len X0 hx hZ e0 V_a2 (v := (1 : Int32)) rfl (g := (mkF m 14 #[.val (.int (0 : Int32)), .val (.ref a2), .val (.int (1 : Int32)), .unset, .unset, .unset, .unset, .unset, .unset] [(.ref a2), (.int (0 : Int32)), (.ref a2)])) rfl rfl (hb hby d14_14) _ k) ?_
  obtain ⟨_, _, ⟨T7, L7, k7, n7⟩, -, X7, ⟨Lc7, hQ7, l7, y7, z7⟩, st7⟩ := Jvm.LawKit.callS X0 hx (y := (⟨"java/lang/StringCoding", "hasNegatives", "([BII)Z"⟩ : MethodName)) hown (mvT hZ (W 69 rfl)) (mvT hZ (W 70 rfl)) (mvT hZ (W 71 rfl)) (mvT hZ (W 72 rfl)) (by decide) (backOf (W := 0) (rmhn1_0 l Z a0 hw [] a2 (nar .byte (c0.toInt8.toInt32)) h0 n0 Z0 V_a2 hs0) hZ (W 72 rfl) (W 71 rfl) (by decide) (by decide)) (g := (mkF m 15 #[.val (.int (0 : Int32)), .val (.ref a2), .val (.int (1 : Int32)), .unset, .unset, .unset, .unset, .unset, .unset] [(.int (1 : Int32)), (.int (0 : Int32)), (.ref a2)])) rfl (by rw [hml]; rfl) (argsL := [(.ref a2), (.int (0 : Int32)), (.int (1 : Int32))]) (rest := []) (lenOf pd_12 rfl) rfl (by show 2 * 0 + _ ≤ _; exact Nat.le_of_eq rfl) (hb hby d14_15) (fun _ _ => ⟨rfl, e0, (by decide : 0 + 0 ≤ _), (by decide : 0 + 0 ≤ _)⟩)
  dsimp only [Pt.U, Pt.locs, Pt.cells, Pt.slots] at X7 l7 y7 z7 st7 hQ7
  subst l7 y7 z7
  obtain ⟨rfl, N7q, e7⟩ := hQ7
  have N7 := Fr.app N0 N7q
  refine Gl.pre (fun _ k => st7 _ k) ?_
  refine Y.ifYes X7 hx (pc0 := 18) (pc' := 29) rfl (hb hby d14_18) rfl ((if0 _ _).trans (feq (show ¬ ((1 : Int32) = (0 : Int32)) from (by decide))).2) (by decide) (by decide) ?_
  refine Y.iconst X7 hx (hb hby d14_29) ?_
  refine Y.istoreN X7 hx (hb hby d14_30) rfl (l' := #[.val (.int (0 : Int32)), .val (.ref a2), .val (.int (1 : Int32)), .val (.int (0 : Int32)), .unset, .unset, .unset, .unset, .unset]) rfl ?_
  refine Y.aloadN X7 hx (hb hby d14_31) rfl rfl ?_
  refine Gl.pre (fun _ k => own_len X7 hx hZ e7 V_a2 (v := (1 : Int32)) rfl (g := (mkF m 32 #[.val (.int (0 : Int32)), .val (.ref a2), .val (.int (1 : Int32)), .val (.int (0 : Int32)), .unset, .unset, .unset, .unset, .unset] [(.ref a2)])) rfl rfl (hb hby d14_32) _ k) ?_
  obtain ⟨_, _, ⟨T8, L8, k8, n8⟩, -, X8, ⟨Lc8, hQ8, l8, y8, z8⟩, st8⟩ := Jvm.LawKit.callS X7 hx (y := (⟨"java/lang/StringUTF16", "newBytesFor", "(I)[B"⟩ : MethodName)) hown (mvT hZ (W 98 rfl)) (mvT hZ (W 99 rfl)) (mvT hZ (W 26 rfl)) (mvT hZ (W 100 rfl)) (by decide) (backOf (W := 0) (rmnf1 l Z a0 hw []  h0 n0 Z0 ) hZ (W 100 rfl) (W 26 rfl) (by decide) (by decide)) (g := (mkF m 33 #[.val (.int (0 : Int32)), .val (.ref a2), .val (.int (1 : Int32)), .val (.int (0 : Int32)), .unset, .unset, .unset, .unset, .unset] [(.int (1 : Int32))])) rfl (by rw [hml]; rfl) (argsL := [(.int (1 : Int32))]) (rest := []) (lenOf pd_1 rfl) rfl (by show 2 * 0 + _ ≤ _; exact Nat.le_of_eq rfl) (hb hby d14_33) (fun _ _ => ⟨rfl, e7, (by decide : 0 + 1 ≤ _), (by decide : 0 + 2 ≤ _)⟩)
  dsimp only [Pt.U, Pt.locs, Pt.cells, Pt.slots] at X8 l8 y8 z8 st8 hQ8
  subst l8 y8 z8
  obtain ⟨bn8, rfl, N8q, hz8, K8, V8q, Eb8⟩ := hQ8
  have N8 := Fr.app N7 N8q
  refine Gl.pre (fun _ k => st8 _ k) ?_
  have own_ne_a2_bn8 : a2 ≠ bn8 := Nat.ne_of_lt (Nat.lt_of_lt_of_le V_a2.lt hz8)
  have own_ne_bn8_a2 := own_ne_a2_bn8.symm
  have g_bn8 : n0 ≤ bn8 := Nat.le_trans Z0 hz8
  have sz_bn8 : h0.size ≤ bn8 := Nat.le_trans K0.1 hz8
  have V_a2 := V_a2.keep K8 nin0
  have E_a2 := E_a2.keep K8
  have O_ := O_.keep K8 all0
  have Z8 : n0 ≤ T8.heap.size := Nat.le_trans Z0 K8.1
  have K8k := K0.trans K8 all0
  have V_bn8 := V8q
  have E_bn8 := Eb8
  refine Y.astore X8 hx (hb hby d14_36) rfl rfl (l' := #[.val (.int (0 : Int32)), .val (.ref a2), .val (.int (1 : Int32)), .val (.int (0 : Int32)), .val (.ref bn8), .unset, .unset, .unset, .unset]) rfl ?_
  refine Y.aloadN X8 hx (hb hby d14_38) rfl rfl ?_
  refine Y.astore X8 hx (hb hby d14_39) rfl rfl (l' := #[.val (.int (0 : Int32)), .val (.ref a2), .val (.int (1 : Int32)), .val (.int (0 : Int32)), .val (.ref bn8), .val (.ref a2), .unset, .unset, .unset]) rfl ?_
  refine Y.aload X8 hx (hb hby d14_41) rfl rfl ?_
  refine Gl.pre (fun _ k => own_len X8 hx hZ rfl V_a2 (v := (1 : Int32)) rfl (g := (mkF m 43 #[.val (.int (0 : Int32)), .val (.ref a2), .val (.int (1 : Int32)), .val (.int (0 : Int32)), .val (.ref bn8), .val (.ref a2), .unset, .unset, .unset] [(.ref a2)])) rfl rfl (hb hby d14_43) _ k) ?_
  refine Y.istore X8 hx (hb hby d14_44) rfl (l' := #[.val (.int (0 : Int32)), .val (.ref a2), .val (.int (1 : Int32)), .val (.int (0 : Int32)), .val (.ref bn8), .val (.ref a2), .val (.int (1 : Int32)), .unset, .unset]) rfl ?_
  refine Y.iconst X8 hx (hb hby d14_46) ?_
  refine Y.istore X8 hx (hb hby d14_47) rfl (l' := #[.val (.int (0 : Int32)), .val (.ref a2), .val (.int (1 : Int32)), .val (.int (0 : Int32)), .val (.ref bn8), .val (.ref a2), .val (.int (1 : Int32)), .val (.int (0 : Int32)), .unset]) rfl ?_
  refine Y.iload X8 hx (hb hby d14_49) rfl ?_
  refine Y.iload X8 hx (hb hby d14_51) rfl ?_
  refine Y.icmpNo X8 hx (hb hby d14_53) rfl (tlt (show (0 : Int32) < (1 : Int32) from (by decide))).2.1 ?_
  refine Y.aload X8 hx (hb hby d14_56) rfl rfl ?_
  refine Y.iload X8 hx (hb hby d14_58) rfl ?_
  refine Gl.pre (fun _ k => own_ldB X8 hx hZ rfl V_a2 (j := (0 : Int32)) (i := 0) (by decide) (by decide) (Nat.lt_of_lt_of_eq (by decide : 0 < 1) rfl) (v := (nar .byte (c0.toInt8.toInt32))) rfl (g := (mkF m 60 #[.val (.int (0 : Int32)), .val (.ref a2), .val (.int (1 : Int32)), .val (.int (0 : Int32)), .val (.ref bn8), .val (.ref a2), .val (.int (1 : Int32)), .val (.int (0 : Int32)), .unset] [(.int (0 : Int32)), (.ref a2)])) rfl rfl (hb hby d14_60) _ k) ?_
  refine Y.istore X8 hx (hb hby d14_61) rfl (l' := #[.val (.int (0 : Int32)), .val (.ref a2), .val (.int (1 : Int32)), .val (.int (0 : Int32)), .val (.ref bn8), .val (.ref a2), .val (.int (1 : Int32)), .val (.int (0 : Int32)), .val (.int (nar .byte (c0.toInt8.toInt32)))]) rfl ?_
  refine Y.iload X8 hx (hb hby d14_63) rfl ?_
  refine Y.ifNo X8 hx (hb hby d14_65) rfl ((if0 _ _).trans (tlt (show (nar .byte (c0.toInt8.toInt32)) < (0 : Int32) from hs0)).2.1) ?_
  refine Y.aload X8 hx (hb hby d14_68) rfl rfl ?_
  refine Y.iloadN X8 hx (hb hby d14_70) rfl ?_
  refine Y.iinc X8 hx (hb hby d14_71) rfl (l' := #[.val (.int (0 : Int32)), .val (.ref a2), .val (.int (1 : Int32)), .val (.int (1 : Int32)), .val (.ref bn8), .val (.ref a2), .val (.int (1 : Int32)), .val (.int (0 : Int32)), .val (.int (nar .byte (c0.toInt8.toInt32)))]) rfl ?_
  refine Y.sipush X8 hx (hb hby d14_74) ?_
  refine Y.iload X8 hx (hb hby d14_77) rfl ?_
  refine Y.sipush X8 hx (hb hby d14_79) ?_
  refine Y.iand X8 hx (hb hby d14_82) rfl ?_
  refine Y.bipush X8 hx (hb hby d14_83) ?_
  refine Y.ishr X8 hx (hb hby d14_85) rfl ?_
  refine Y.ior X8 hx (hb hby d14_86) rfl ?_
  refine Y.i2b X8 hx (hb hby d14_87) rfl ?_
  obtain ⟨T9, h9, X9, e9, W9, V9, st9⟩ := own_stB X8 hx hZ rfl V_bn8 (j := (0 : Int32)) (i := 0) (by decide) (by decide) (Nat.lt_of_lt_of_eq (by decide : 0 < 2) rfl) (g := (mkF m 88 #[.val (.int (0 : Int32)), .val (.ref a2), .val (.int (1 : Int32)), .val (.int (1 : Int32)), .val (.ref bn8), .val (.ref a2), .val (.int (1 : Int32)), .val (.int (0 : Int32)), .val (.int (nar .byte (c0.toInt8.toInt32)))] [(.int (((192 : Int32) ||| (((nar .byte (c0.toInt8.toInt32)) &&& (255 : Int32)) >>> ((6 : Int32) &&& 31))).toInt8.toInt32)), (.int (0 : Int32)), (.ref bn8)])) rfl rfl (hb hby d14_88)
  refine Gl.pre (fun _ k => st9 _ k) ?_
  have V_a2 := V_a2.other W9 (own_ne_a2_bn8)
  have E_a2 := E_a2.wr W9
  have O_ := O_.wr W9 g_bn8
  have E_bn8 := E_bn8.wr W9
  have Z9 : n0 ≤ h9.size := by rw [W9.size]; exact Z8
  have N9 := Fr.snoc X9 N8 g_bn8
  have K9 := K8k.wr W9 (Or.inr sz_bn8)
  have V_bn8 : Bal Z h9 bn8 .byte [(nar .byte (((192 : Int32) ||| (((nar .byte (c0.toInt8.toInt32)) &&& (255 : Int32)) >>> ((6 : Int32) &&& 31))).toInt8.toInt32)), (0 : Int32)] := V9
  refine Y.aload X9 hx (hb hby d14_89) rfl rfl ?_
  refine Y.iloadN X9 hx (hb hby d14_91) rfl ?_
  refine Y.iinc X9 hx (hb hby d14_92) rfl (l' := #[.val (.int (0 : Int32)), .val (.ref a2), .val (.int (1 : Int32)), .val (.int (2 : Int32)), .val (.ref bn8), .val (.ref a2), .val (.int (1 : Int32)), .val (.int (0 : Int32)), .val (.int (nar .byte (c0.toInt8.toInt32)))]) rfl ?_
  refine Y.sipush X9 hx (hb hby d14_95) ?_
  refine Y.iload X9 hx (hb hby d14_98) rfl ?_
  refine Y.bipush X9 hx (hb hby d14_100) ?_
  refine Y.iand X9 hx (hb hby d14_102) rfl ?_
  refine Y.ior X9 hx (hb hby d14_103) rfl ?_
  refine Y.i2b X9 hx (hb hby d14_104) rfl ?_
  obtain ⟨T10, h10, X10, e10, W10, V10, st10⟩ := own_stB X9 hx hZ e9 V_bn8 (j := (1 : Int32)) (i := 1) (by decide) (by decide) (Nat.lt_of_lt_of_eq (by decide : 1 < 2) rfl) (g := (mkF m 105 #[.val (.int (0 : Int32)), .val (.ref a2), .val (.int (1 : Int32)), .val (.int (2 : Int32)), .val (.ref bn8), .val (.ref a2), .val (.int (1 : Int32)), .val (.int (0 : Int32)), .val (.int (nar .byte (c0.toInt8.toInt32)))] [(.int (((128 : Int32) ||| ((nar .byte (c0.toInt8.toInt32)) &&& (63 : Int32))).toInt8.toInt32)), (.int (1 : Int32)), (.ref bn8)])) rfl rfl (hb hby d14_105)
  refine Gl.pre (fun _ k => st10 _ k) ?_
  have V_a2 := V_a2.other W10 (own_ne_a2_bn8)
  have E_a2 := E_a2.wr W10
  have O_ := O_.wr W10 g_bn8
  have E_bn8 := E_bn8.wr W10
  have Z10 : n0 ≤ h10.size := by rw [W10.size]; exact Z9
  have N10 := Fr.snoc X10 N9 g_bn8
  have K10 := K9.wr W10 (Or.inr sz_bn8)
  have V_bn8 : Bal Z h10 bn8 .byte [(nar .byte (((192 : Int32) ||| (((nar .byte (c0.toInt8.toInt32)) &&& (255 : Int32)) >>> ((6 : Int32) &&& 31))).toInt8.toInt32)), (nar .byte (((128 : Int32) ||| ((nar .byte (c0.toInt8.toInt32)) &&& (63 : Int32))).toInt8.toInt32))] := V10
  refine Y.goto X10 hx (pc0 := 106) (pc' := 118) rfl (hb hby d14_106) (by decide) (by decide) ?_
  refine Y.iinc X10 hx (hb hby d14_118) rfl (l' := #[.val (.int (0 : Int32)), .val (.ref a2), .val (.int (1 : Int32)), .val (.int (2 : Int32)), .val (.ref bn8), .val (.ref a2), .val (.int (1 : Int32)), .val (.int (1 : Int32)), .val (.int (nar .byte (c0.toInt8.toInt32)))]) rfl ?_
  refine Y.goto X10 hx (pc0 := 121) (pc' := 49) rfl (hb hby d14_121) (by decide) (by decide) ?_
  refine Y.iload X10 hx (hb hby d14_49) rfl ?_
  refine Y.iload X10 hx (hb hby d14_51) rfl ?_
  refine Y.icmpYes X10 hx (pc0 := 53) (pc' := 124) rfl (hb hby d14_53) rfl (flt (show ¬ ((1 : Int32) < (1 : Int32)) from (by decide))).2.1 (by decide) (by decide) ?_
  refine Y.iloadN X10 hx (hb hby d14_124) rfl ?_
  refine Y.aload X10 hx (hb hby d14_125) rfl rfl ?_
  refine Gl.pre (fun _ k => own_len X10 hx hZ e10 V_bn8 (v := (2 : Int32)) rfl (g := (mkF m 127 #[.val (.int (0 : Int32)), .val (.ref a2), .val (.int (1 : Int32)), .val (.int (2 : Int32)), .val (.ref bn8), .val (.ref a2), .val (.int (1 : Int32)), .val (.int (1 : Int32)), .val (.int (nar .byte (c0.toInt8.toInt32)))] [(.ref bn8), (.int (2 : Int32))])) rfl rfl (hb hby d14_127) _ k) ?_
  refine Y.icmpNo X10 hx (hb hby d14_128) rfl (teq (show (2 : Int32) = (2 : Int32) from (by decide))).2 ?_
  refine Y.aload X10 hx (hb hby d14_131) rfl rfl ?_
  rw [hPP]
  refine own_finA (Q := (Qeu Z co a2 xs ys h0 n0)) X10 hx hlk Bd.returns rfl rfl (hb hby d14_133) ?_ (by decide) (by decide)
  show Qeu Z co a2 xs ys h0 n0 _ T10.heap _
  rw [e10]
  refine ⟨bn8, rfl, N10, sz_bn8, K10, ?_⟩
  rw [hxe]
  rw [own_ue1, own_u1b hd0 (own_2048 hc0)]
  rw [own_y255 hr0.1 hc0, own_y63 c0] at V_bn8
  exact V_bn8
  rw [hce]
  rw [hye] at V_a2
  have hn0 : c0 < (55296 : Int32) ∨ ¬ (c0 < (57344 : Int32)) := hsd c0 (by rw [hxe]; simp)
  show Gl p.tables e below PP (s₁.setTop (mkF m 0 #[.val (.int (1 : Int32)), .val (.ref a2), .val (.int (1 : Int32)), .unset, .unset, .unset, .unset, .unset, .unset] []))
  refine Y.iloadN X0 hx (hb hby d14_0) rfl ?_
  refine Y.iconst X0 hx (hb hby d14_1) ?_
  refine Y.icmpNo X0 hx (hb hby d14_2) rfl (teq (show (1 : Int32) = (1 : Int32) from (by decide))).2 ?_
  refine Y.aloadN X0 hx (hb hby d14_5) rfl rfl ?_
  refine Y.iloadN X0 hx (hb hby d14_6) rfl ?_
  obtain ⟨_, _, ⟨T11, L11, k11, n11⟩, -, X11, ⟨Lc11, hQ11, l11, y11, z11⟩, st11⟩ := Jvm.LawKit.callS X0 hx (y := (⟨"java/lang/String", "encodeUTF8_UTF16", "([BZ)[B"⟩ : MethodName)) hown (mvT hZ (W 118 rfl)) (mvT hZ (W 119 rfl)) (mvT hZ (W 8 rfl)) (mvT hZ (W 120 rfl)) (by decide) (backOf (W := 0) (rmue1 l Z a0 hw [] a2 c0 h0 n0 Z0 V_a2 hr0 hc0 hn0 SAD SHI SLO O_) hZ (W 120 rfl) (W 8 rfl) (by decide) (by decide)) (g := (mkF m 7 #[.val (.int (1 : Int32)), .val (.ref a2), .val (.int (1 : Int32)), .unset, .unset, .unset, .unset, .unset, .unset] [(.int (1 : Int32)), (.ref a2)])) rfl (by rw [hml]; rfl) (argsL := [(.ref a2), (.int (1 : Int32))]) (rest := []) (lenOf pd_13 rfl) rfl (by show 2 * 0 + _ ≤ _; exact Nat.le_of_eq rfl) (hb hby d14_7) (fun _ _ => ⟨rfl, e0, (by decide : 0 + 2 ≤ _), (by decide : 0 + 5 ≤ _)⟩)
  dsimp only [Pt.U, Pt.locs, Pt.cells, Pt.slots] at X11 l11 y11 z11 st11 hQ11
  subst l11 y11 z11
  obtain ⟨bu11, rfl, N11q, hz11, K11, V11q⟩ := hQ11
  have N11 := Fr.app N0 N11q
  refine Gl.pre (fun _ k => st11 _ k) ?_
  have own_ne_a2_bu11 : a2 ≠ bu11 := Nat.ne_of_lt (Nat.lt_of_lt_of_le V_a2.lt hz11)
  have own_ne_bu11_a2 := own_ne_a2_bu11.symm
  have g_bu11 : n0 ≤ bu11 := Nat.le_trans Z0 hz11
  have sz_bu11 : h0.size ≤ bu11 := Nat.le_trans K0.1 hz11
  have V_a2 := V_a2.keep K11 nin0
  have E_a2 := E_a2.keep K11
  have O_ := O_.keep K11 all0
  have Z11 : n0 ≤ T11.heap.size := Nat.le_trans Z0 K11.1
  have K11k := K0.trans K11 all0
  have V_bu11 := V11q
  rw [hPP]
  refine own_finA (Q := (Qeu Z co a2 xs ys h0 n0)) X11 hx hlk Bd.returns rfl rfl (hb hby d14_10) ?_ (by decide) (by decide)
  show Qeu Z co a2 xs ys h0 n0 _ T11.heap _
  refine ⟨bu11, rfl, N11, sz_bu11, K11k, ?_⟩
  rw [hxe]
  exact V_bu11
  rw [hce]
  rw [hye] at V_a2
  have hn0 : c0 < (55296 : Int32) ∨ ¬ (c0 < (57344 : Int32)) := hsd c0 (by rw [hxe]; simp)
  have hn1 : c1 < (55296 : Int32) ∨ ¬ (c1 < (57344 : Int32)) := hsd c1 (by rw [hxe]; simp)
  show Gl p.tables e below PP (s₁.setTop (mkF m 0 #[.val (.int (0 : Int32)), .val (.ref a2), .val (.int (1 : Int32)), .unset, .unset, .unset, .unset, .unset, .unset] []))
  by_cases hd0 : c0 < (128 : Int32)
  have hs0 := own_lbp hr0.1 hd0
  by_cases hd1 : c1 < (128 : Int32)
  have hs1 := own_lbp hr1.1 hd1
  show Gl p.tables e below PP (s₁.setTop (mkF m 0 #[.val (.int (0 : Int32)), .val (.ref a2), .val (.int (1 : Int32)), .unset, .unset, .unset, .unset, .unset, .unset] []))
  refine Y.iloadN X0 hx (hb hby d14_0) rfl ?_
  refine Y.iconst X0 hx (hb hby d14_1) ?_
  refine Y.icmpYes X0 hx (pc0 := 2) (pc' := 11) rfl (hb hby d14_2) rfl (feq (show ¬ ((0 : Int32) = (1 : Int32)) from (by decide))).2 (by decide) (by decide) ?_
  refine Y.aloadN X0 hx (hb hby d14_11) rfl rfl ?_
  refine Y.iconst X0 hx (hb hby d14_12) ?_
  refine Y.aloadN X0 hx (hb hby d14_13) rfl rfl ?_
  refine Gl.pre (fun _ k => own_len X0 hx hZ e0 V_a2 (v := (2 : Int32)) rfl (g := (mkF m 14 #[.val (.int (0 : Int32)), .val (.ref a2), .val (.int (1 : Int32)), .unset, .unset, .unset, .unset, .unset, .unset] [(.ref a2), (.int (0 : Int32)), (.ref a2)])) rfl rfl (hb hby d14_14) _ k) ?_
  obtain ⟨_, _, ⟨T12, L12, k12, n12⟩, -, X12, ⟨Lc12, hQ12, l12, y12, z12⟩, st12⟩ := Jvm.LawKit.callS X0 hx (y := (⟨"java/lang/StringCoding", "hasNegatives", "([BII)Z"⟩ : MethodName)) hown (mvT hZ (W 69 rfl)) (mvT hZ (W 70 rfl)) (mvT hZ (W 71 rfl)) (mvT hZ (W 72 rfl)) (by decide) (backOf (W := 0) (rmhn2_2 l Z a0 hw [] a2 (nar .byte (c0.toInt8.toInt32)) (nar .byte (c1.toInt8.toInt32)) h0 n0 Z0 V_a2 hs0 hs1) hZ (W 72 rfl) (W 71 rfl) (by decide) (by decide)) (g := (mkF m 15 #[.val (.int (0 : Int32)), .val (.ref a2), .val (.int (1 : Int32)), .unset, .unset, .unset, .unset, .unset, .unset] [(.int (2 : Int32)), (.int (0 : Int32)), (.ref a2)])) rfl (by rw [hml]; rfl) (argsL := [(.ref a2), (.int (0 : Int32)), (.int (2 : Int32))]) (rest := []) (lenOf pd_12 rfl) rfl (by show 2 * 0 + _ ≤ _; exact Nat.le_of_eq rfl) (hb hby d14_15) (fun _ _ => ⟨rfl, e0, (by decide : 0 + 0 ≤ _), (by decide : 0 + 0 ≤ _)⟩)
  dsimp only [Pt.U, Pt.locs, Pt.cells, Pt.slots] at X12 l12 y12 z12 st12 hQ12
  subst l12 y12 z12
  obtain ⟨rfl, N12q, e12⟩ := hQ12
  have N12 := Fr.app N0 N12q
  refine Gl.pre (fun _ k => st12 _ k) ?_
  refine Y.ifNo X12 hx (hb hby d14_18) rfl ((if0 _ _).trans (teq (show (0 : Int32) = (0 : Int32) from (by decide))).2) ?_
  refine Y.aloadN X12 hx (hb hby d14_21) rfl rfl ?_
  obtain ⟨ka13, KA13⟩ := own_arvB V_a2 (by intro x hx; simp only [List.mem_cons, List.not_mem_nil, or_false] at hx; rcases hx with rfl | rfl <;> first | exact fits_nar_byte _ | rfl) (by show 2 < 2 ^ 31; decide)
  obtain ⟨T13, h13, X13, e13, E13, A13, B13, st13⟩ := cloneH X12 hx hZ hown (W 76 rfl) (W 77 rfl) (W 81 rfl) (W 79 rfl) (W 80 rfl) (W 82 rfl) e12 KA13.arh E_a2 (g := (mkF m 22 #[.val (.int (0 : Int32)), .val (.ref a2), .val (.int (1 : Int32)), .unset, .unset, .unset, .unset, .unset, .unset] [(.ref a2)])) rfl (by rw [hml]; rfl) rfl (hb hby d14_22) (by decide) (W := 0) (by show 2 * 0 + _ ≤ _; exact Nat.le_of_eq rfl) (by decide) (cap := 2) (by show (Nat.toInt32 2).toNatClampNeg ≤ 2; decide) (by decide) (by decide)
  obtain ⟨b13, g13⟩ : ∃ z, z = h0.size := ⟨_, rfl⟩
  rw [← g13] at A13 B13 st13
  refine Gl.pre (fun _ k => st13 _ k) ?_
  have own_ne_a2_b13 : a2 ≠ b13 := by have q := V_a2.lt; rw [g13]; exact Nat.ne_of_lt q
  have own_ne_b13_a2 : b13 ≠ a2 := own_ne_a2_b13.symm
  have g_b13 : n0 ≤ b13 := Nat.le_trans Z0 (Nat.le_of_eq g13.symm)
  have sz_b13 : h0.size ≤ b13 := Nat.le_trans K0.1 (Nat.le_of_eq g13.symm)
  have V_a2 := V_a2.ext E13
  have E_a2 := E_a2.ext E13
  have O_ := O_.ext E13
  have Z13 : n0 ≤ h13.size := Nat.le_trans Z0 E13.1
  have K13 := K0.ext E13
  have V_b13 : Bal Z h13 b13 .byte [(nar .byte (c0.toInt8.toInt32)), (nar .byte (c1.toInt8.toInt32))] := own_balH A13 (by show 2 < 2 ^ 31; decide)
  have E_b13 := B13
  show Gl p.tables e below PP (T13.setTop (mkF m 25 #[.val (.int (0 : Int32)), .val (.ref a2), .val (.int (1 : Int32)), .unset, .unset, .unset, .unset, .unset, .unset] [(.ref b13)]))
  obtain ⟨T14, X14, e14, st14⟩ := castY X13 hx hZ hown (W 83 rfl) e13 (Ins.self E_b13) (g := (mkF m 25 #[.val (.int (0 : Int32)), .val (.ref a2), .val (.int (1 : Int32)), .unset, .unset, .unset, .unset, .unset, .unset] [(.ref b13)])) rfl rfl (hb hby d14_25)
  refine Gl.pre (fun _ k => st14 _ k) ?_
  show Gl p.tables e below PP (T14.setTop (mkF m 28 #[.val (.int (0 : Int32)), .val (.ref a2), .val (.int (1 : Int32)), .unset, .unset, .unset, .unset, .unset, .unset] [(.ref b13)]))
  rw [hPP]
  refine own_finA (Q := (Qeu Z co a2 xs ys h0 n0)) X14 hx hlk Bd.returns rfl rfl (hb hby d14_28) ?_ (by decide) (by decide)
  show Qeu Z co a2 xs ys h0 n0 _ T14.heap _
  rw [e14]
  refine ⟨b13, rfl, N12, sz_b13, K13, ?_⟩
  rw [hxe]
  rw [own_ue2, own_u1a hd0, own_u1a hd1]; simp only [List.cons_append, List.nil_append]
  exact V_b13
  have hs1 := own_lbn hc1 hd1
  show Gl p.tables e below PP (s₁.setTop (mkF m 0 #[.val (.int (0 : Int32)), .val (.ref a2), .val (.int (1 : Int32)), .unset, .unset, .unset, .unset, .unset, .unset] []))
  refine Y.iloadN X0 hx (hb hby d14_0) rfl ?_
  refine Y.iconst X0 hx (hb hby d14_1) ?_
  refine Y.icmpYes X0 hx (pc0 := 2) (pc' := 11) rfl (hb hby d14_2) rfl (feq (show ¬ ((0 : Int32) = (1 : Int32)) from (by decide))).2 (by decide) (by decide) ?_
  refine Y.aloadN X0 hx (hb hby d14_11) rfl rfl ?_
  refine Y.iconst X0 hx (hb hby d14_12) ?_
  refine Y.aloadN X0 hx (hb hby d14_13) rfl rfl ?_
  refine Gl.pre (fun _ k => own_len X0 hx hZ e0 V_a2 (v := (2 : Int32)) rfl (g := (mkF m 14 #[.val (.int (0 : Int32)), .val (.ref a2), .val (.int (1 : Int32)), .unset, .unset, .unset, .unset, .unset, .unset] [(.ref a2), (.int (0 : Int32)), (.ref a2)])) rfl rfl (hb hby d14_14) _ k) ?_
  obtain ⟨_, _, ⟨T15, L15, k15, n15⟩, -, X15, ⟨Lc15, hQ15, l15, y15, z15⟩, st15⟩ := Jvm.LawKit.callS X0 hx (y := (⟨"java/lang/StringCoding", "hasNegatives", "([BII)Z"⟩ : MethodName)) hown (mvT hZ (W 69 rfl)) (mvT hZ (W 70 rfl)) (mvT hZ (W 71 rfl)) (mvT hZ (W 72 rfl)) (by decide) (backOf (W := 0) (rmhn2_1 l Z a0 hw [] a2 (nar .byte (c0.toInt8.toInt32)) (nar .byte (c1.toInt8.toInt32)) h0 n0 Z0 V_a2 hs0 hs1) hZ (W 72 rfl) (W 71 rfl) (by decide) (by decide)) (g := (mkF m 15 #[.val (.int (0 : Int32)), .val (.ref a2), .val (.int (1 : Int32)), .unset, .unset, .unset, .unset, .unset, .unset] [(.int (2 : Int32)), (.int (0 : Int32)), (.ref a2)])) rfl (by rw [hml]; rfl) (argsL := [(.ref a2), (.int (0 : Int32)), (.int (2 : Int32))]) (rest := []) (lenOf pd_12 rfl) rfl (by show 2 * 0 + _ ≤ _; exact Nat.le_of_eq rfl) (hb hby d14_15) (fun _ _ => ⟨rfl, e0, (by decide : 0 + 0 ≤ _), (by decide : 0 + 0 ≤ _)⟩)
  dsimp only [Pt.U, Pt.locs, Pt.cells, Pt.slots] at X15 l15 y15 z15 st15 hQ15
  subst l15 y15 z15
  obtain ⟨rfl, N15q, e15⟩ := hQ15
  have N15 := Fr.app N0 N15q
  refine Gl.pre (fun _ k => st15 _ k) ?_
  refine Y.ifYes X15 hx (pc0 := 18) (pc' := 29) rfl (hb hby d14_18) rfl ((if0 _ _).trans (feq (show ¬ ((1 : Int32) = (0 : Int32)) from (by decide))).2) (by decide) (by decide) ?_
  refine Y.iconst X15 hx (hb hby d14_29) ?_
  refine Y.istoreN X15 hx (hb hby d14_30) rfl (l' := #[.val (.int (0 : Int32)), .val (.ref a2), .val (.int (1 : Int32)), .val (.int (0 : Int32)), .unset, .unset, .unset, .unset, .unset]) rfl ?_
  refine Y.aloadN X15 hx (hb hby d14_31) rfl rfl ?_
  refine Gl.pre (fun _ k => own_len X15 hx hZ e15 V_a2 (v := (2 : Int32)) rfl (g := (mkF m 32 #[.val (.int (0 : Int32)), .val (.ref a2), .val (.int (1 : Int32)), .val (.int (0 : Int32)), .unset, .unset, .unset, .unset, .unset] [(.ref a2)])) rfl rfl (hb hby d14_32) _ k) ?_
  obtain ⟨_, _, ⟨T16, L16, k16, n16⟩, -, X16, ⟨Lc16, hQ16, l16, y16, z16⟩, st16⟩ := Jvm.LawKit.callS X15 hx (y := (⟨"java/lang/StringUTF16", "newBytesFor", "(I)[B"⟩ : MethodName)) hown (mvT hZ (W 98 rfl)) (mvT hZ (W 99 rfl)) (mvT hZ (W 26 rfl)) (mvT hZ (W 100 rfl)) (by decide) (backOf (W := 0) (rmnf2 l Z a0 hw []  h0 n0 Z0 ) hZ (W 100 rfl) (W 26 rfl) (by decide) (by decide)) (g := (mkF m 33 #[.val (.int (0 : Int32)), .val (.ref a2), .val (.int (1 : Int32)), .val (.int (0 : Int32)), .unset, .unset, .unset, .unset, .unset] [(.int (2 : Int32))])) rfl (by rw [hml]; rfl) (argsL := [(.int (2 : Int32))]) (rest := []) (lenOf pd_1 rfl) rfl (by show 2 * 0 + _ ≤ _; exact Nat.le_of_eq rfl) (hb hby d14_33) (fun _ _ => ⟨rfl, e15, (by decide : 0 + 1 ≤ _), (by decide : 0 + 4 ≤ _)⟩)
  dsimp only [Pt.U, Pt.locs, Pt.cells, Pt.slots] at X16 l16 y16 z16 st16 hQ16
  subst l16 y16 z16
  obtain ⟨bn16, rfl, N16q, hz16, K16, V16q, Eb16⟩ := hQ16
  have N16 := Fr.app N15 N16q
  refine Gl.pre (fun _ k => st16 _ k) ?_
  have own_ne_a2_bn16 : a2 ≠ bn16 := Nat.ne_of_lt (Nat.lt_of_lt_of_le V_a2.lt hz16)
  have own_ne_bn16_a2 := own_ne_a2_bn16.symm
  have g_bn16 : n0 ≤ bn16 := Nat.le_trans Z0 hz16
  have sz_bn16 : h0.size ≤ bn16 := Nat.le_trans K0.1 hz16
  have V_a2 := V_a2.keep K16 nin0
  have E_a2 := E_a2.keep K16
  have O_ := O_.keep K16 all0
  have Z16 : n0 ≤ T16.heap.size := Nat.le_trans Z0 K16.1
  have K16k := K0.trans K16 all0
  have V_bn16 := V16q
  have E_bn16 := Eb16
  refine Y.astore X16 hx (hb hby d14_36) rfl rfl (l' := #[.val (.int (0 : Int32)), .val (.ref a2), .val (.int (1 : Int32)), .val (.int (0 : Int32)), .val (.ref bn16), .unset, .unset, .unset, .unset]) rfl ?_
  refine Y.aloadN X16 hx (hb hby d14_38) rfl rfl ?_
  refine Y.astore X16 hx (hb hby d14_39) rfl rfl (l' := #[.val (.int (0 : Int32)), .val (.ref a2), .val (.int (1 : Int32)), .val (.int (0 : Int32)), .val (.ref bn16), .val (.ref a2), .unset, .unset, .unset]) rfl ?_
  refine Y.aload X16 hx (hb hby d14_41) rfl rfl ?_
  refine Gl.pre (fun _ k => own_len X16 hx hZ rfl V_a2 (v := (2 : Int32)) rfl (g := (mkF m 43 #[.val (.int (0 : Int32)), .val (.ref a2), .val (.int (1 : Int32)), .val (.int (0 : Int32)), .val (.ref bn16), .val (.ref a2), .unset, .unset, .unset] [(.ref a2)])) rfl rfl (hb hby d14_43) _ k) ?_
  refine Y.istore X16 hx (hb hby d14_44) rfl (l' := #[.val (.int (0 : Int32)), .val (.ref a2), .val (.int (1 : Int32)), .val (.int (0 : Int32)), .val (.ref bn16), .val (.ref a2), .val (.int (2 : Int32)), .unset, .unset]) rfl ?_
  refine Y.iconst X16 hx (hb hby d14_46) ?_
  refine Y.istore X16 hx (hb hby d14_47) rfl (l' := #[.val (.int (0 : Int32)), .val (.ref a2), .val (.int (1 : Int32)), .val (.int (0 : Int32)), .val (.ref bn16), .val (.ref a2), .val (.int (2 : Int32)), .val (.int (0 : Int32)), .unset]) rfl ?_
  refine Y.iload X16 hx (hb hby d14_49) rfl ?_
  refine Y.iload X16 hx (hb hby d14_51) rfl ?_
  refine Y.icmpNo X16 hx (hb hby d14_53) rfl (tlt (show (0 : Int32) < (2 : Int32) from (by decide))).2.1 ?_
  refine Y.aload X16 hx (hb hby d14_56) rfl rfl ?_
  refine Y.iload X16 hx (hb hby d14_58) rfl ?_
  refine Gl.pre (fun _ k => own_ldB X16 hx hZ rfl V_a2 (j := (0 : Int32)) (i := 0) (by decide) (by decide) (Nat.lt_of_lt_of_eq (by decide : 0 < 2) rfl) (v := (nar .byte (c0.toInt8.toInt32))) rfl (g := (mkF m 60 #[.val (.int (0 : Int32)), .val (.ref a2), .val (.int (1 : Int32)), .val (.int (0 : Int32)), .val (.ref bn16), .val (.ref a2), .val (.int (2 : Int32)), .val (.int (0 : Int32)), .unset] [(.int (0 : Int32)), (.ref a2)])) rfl rfl (hb hby d14_60) _ k) ?_
  refine Y.istore X16 hx (hb hby d14_61) rfl (l' := #[.val (.int (0 : Int32)), .val (.ref a2), .val (.int (1 : Int32)), .val (.int (0 : Int32)), .val (.ref bn16), .val (.ref a2), .val (.int (2 : Int32)), .val (.int (0 : Int32)), .val (.int (nar .byte (c0.toInt8.toInt32)))]) rfl ?_
  refine Y.iload X16 hx (hb hby d14_63) rfl ?_
  refine Y.ifYes X16 hx (pc0 := 65) (pc' := 109) rfl (hb hby d14_65) rfl ((if0 _ _).trans (flt (show ¬ ((nar .byte (c0.toInt8.toInt32)) < (0 : Int32)) from hs0)).2.1) (by decide) (by decide) ?_
  refine Y.aload X16 hx (hb hby d14_109) rfl rfl ?_
  refine Y.iloadN X16 hx (hb hby d14_111) rfl ?_
  refine Y.iinc X16 hx (hb hby d14_112) rfl (l' := #[.val (.int (0 : Int32)), .val (.ref a2), .val (.int (1 : Int32)), .val (.int (1 : Int32)), .val (.ref bn16), .val (.ref a2), .val (.int (2 : Int32)), .val (.int (0 : Int32)), .val (.int (nar .byte (c0.toInt8.toInt32)))]) rfl ?_
  refine Y.iload X16 hx (hb hby d14_115) rfl ?_
  obtain ⟨T17, h17, X17, e17, W17, V17, st17⟩ := own_stB X16 hx hZ rfl V_bn16 (j := (0 : Int32)) (i := 0) (by decide) (by decide) (Nat.lt_of_lt_of_eq (by decide : 0 < 4) rfl) (g := (mkF m 117 #[.val (.int (0 : Int32)), .val (.ref a2), .val (.int (1 : Int32)), .val (.int (1 : Int32)), .val (.ref bn16), .val (.ref a2), .val (.int (2 : Int32)), .val (.int (0 : Int32)), .val (.int (nar .byte (c0.toInt8.toInt32)))] [(.int (nar .byte (c0.toInt8.toInt32))), (.int (0 : Int32)), (.ref bn16)])) rfl rfl (hb hby d14_117)
  refine Gl.pre (fun _ k => st17 _ k) ?_
  have V_a2 := V_a2.other W17 (own_ne_a2_bn16)
  have E_a2 := E_a2.wr W17
  have O_ := O_.wr W17 g_bn16
  have E_bn16 := E_bn16.wr W17
  have Z17 : n0 ≤ h17.size := by rw [W17.size]; exact Z16
  have N17 := Fr.snoc X17 N16 g_bn16
  have K17 := K16k.wr W17 (Or.inr sz_bn16)
  have V_bn16 : Bal Z h17 bn16 .byte [(nar .byte (nar .byte (c0.toInt8.toInt32))), (0 : Int32), (0 : Int32), (0 : Int32)] := V17
  refine Y.iinc X17 hx (hb hby d14_118) rfl (l' := #[.val (.int (0 : Int32)), .val (.ref a2), .val (.int (1 : Int32)), .val (.int (1 : Int32)), .val (.ref bn16), .val (.ref a2), .val (.int (2 : Int32)), .val (.int (1 : Int32)), .val (.int (nar .byte (c0.toInt8.toInt32)))]) rfl ?_
  refine Y.goto X17 hx (pc0 := 121) (pc' := 49) rfl (hb hby d14_121) (by decide) (by decide) ?_
  refine Y.iload X17 hx (hb hby d14_49) rfl ?_
  refine Y.iload X17 hx (hb hby d14_51) rfl ?_
  refine Y.icmpNo X17 hx (hb hby d14_53) rfl (tlt (show (1 : Int32) < (2 : Int32) from (by decide))).2.1 ?_
  refine Y.aload X17 hx (hb hby d14_56) rfl rfl ?_
  refine Y.iload X17 hx (hb hby d14_58) rfl ?_
  refine Gl.pre (fun _ k => own_ldB X17 hx hZ e17 V_a2 (j := (1 : Int32)) (i := 1) (by decide) (by decide) (Nat.lt_of_lt_of_eq (by decide : 1 < 2) rfl) (v := (nar .byte (c1.toInt8.toInt32))) rfl (g := (mkF m 60 #[.val (.int (0 : Int32)), .val (.ref a2), .val (.int (1 : Int32)), .val (.int (1 : Int32)), .val (.ref bn16), .val (.ref a2), .val (.int (2 : Int32)), .val (.int (1 : Int32)), .val (.int (nar .byte (c0.toInt8.toInt32)))] [(.int (1 : Int32)), (.ref a2)])) rfl rfl (hb hby d14_60) _ k) ?_
  refine Y.istore X17 hx (hb hby d14_61) rfl (l' := #[.val (.int (0 : Int32)), .val (.ref a2), .val (.int (1 : Int32)), .val (.int (1 : Int32)), .val (.ref bn16), .val (.ref a2), .val (.int (2 : Int32)), .val (.int (1 : Int32)), .val (.int (nar .byte (c1.toInt8.toInt32)))]) rfl ?_
  refine Y.iload X17 hx (hb hby d14_63) rfl ?_
  refine Y.ifNo X17 hx (hb hby d14_65) rfl ((if0 _ _).trans (tlt (show (nar .byte (c1.toInt8.toInt32)) < (0 : Int32) from hs1)).2.1) ?_
  refine Y.aload X17 hx (hb hby d14_68) rfl rfl ?_
  refine Y.iloadN X17 hx (hb hby d14_70) rfl ?_
  refine Y.iinc X17 hx (hb hby d14_71) rfl (l' := #[.val (.int (0 : Int32)), .val (.ref a2), .val (.int (1 : Int32)), .val (.int (2 : Int32)), .val (.ref bn16), .val (.ref a2), .val (.int (2 : Int32)), .val (.int (1 : Int32)), .val (.int (nar .byte (c1.toInt8.toInt32)))]) rfl ?_
  refine Y.sipush X17 hx (hb hby d14_74) ?_
  refine Y.iload X17 hx (hb hby d14_77) rfl ?_
  refine Y.sipush X17 hx (hb hby d14_79) ?_
  refine Y.iand X17 hx (hb hby d14_82) rfl ?_
  refine Y.bipush X17 hx (hb hby d14_83) ?_
  refine Y.ishr X17 hx (hb hby d14_85) rfl ?_
  refine Y.ior X17 hx (hb hby d14_86) rfl ?_
  refine Y.i2b X17 hx (hb hby d14_87) rfl ?_
  obtain ⟨T18, h18, X18, e18, W18, V18, st18⟩ := own_stB X17 hx hZ e17 V_bn16 (j := (1 : Int32)) (i := 1) (by decide) (by decide) (Nat.lt_of_lt_of_eq (by decide : 1 < 4) rfl) (g := (mkF m 88 #[.val (.int (0 : Int32)), .val (.ref a2), .val (.int (1 : Int32)), .val (.int (2 : Int32)), .val (.ref bn16), .val (.ref a2), .val (.int (2 : Int32)), .val (.int (1 : Int32)), .val (.int (nar .byte (c1.toInt8.toInt32)))] [(.int (((192 : Int32) ||| (((nar .byte (c1.toInt8.toInt32)) &&& (255 : Int32)) >>> ((6 : Int32) &&& 31))).toInt8.toInt32)), (.int (1 : Int32)), (.ref bn16)])) rfl rfl (hb hby d14_88)
  refine Gl.pre (fun _ k => st18 _ k) ?_
  have V_a2 := V_a2.other W18 (own_ne_a2_bn16)
  have E_a2 := E_a2.wr W18
  have O_ := O_.wr W18 g_bn16
  have E_bn16 := E_bn16.wr W18
  have Z18 : n0 ≤ h18.size := by rw [W18.size]; exact Z17
  have N18 := Fr.snoc X18 N17 g_bn16
  have K18 := K17.wr W18 (Or.inr sz_bn16)
  have V_bn16 : Bal Z h18 bn16 .byte [(nar .byte (nar .byte (c0.toInt8.toInt32))), (nar .byte (((192 : Int32) ||| (((nar .byte (c1.toInt8.toInt32)) &&& (255 : Int32)) >>> ((6 : Int32) &&& 31))).toInt8.toInt32)), (0 : Int32), (0 : Int32)] := V18
  refine Y.aload X18 hx (hb hby d14_89) rfl rfl ?_
  refine Y.iloadN X18 hx (hb hby d14_91) rfl ?_
  refine Y.iinc X18 hx (hb hby d14_92) rfl (l' := #[.val (.int (0 : Int32)), .val (.ref a2), .val (.int (1 : Int32)), .val (.int (3 : Int32)), .val (.ref bn16), .val (.ref a2), .val (.int (2 : Int32)), .val (.int (1 : Int32)), .val (.int (nar .byte (c1.toInt8.toInt32)))]) rfl ?_
  refine Y.sipush X18 hx (hb hby d14_95) ?_
  refine Y.iload X18 hx (hb hby d14_98) rfl ?_
  refine Y.bipush X18 hx (hb hby d14_100) ?_
  refine Y.iand X18 hx (hb hby d14_102) rfl ?_
  refine Y.ior X18 hx (hb hby d14_103) rfl ?_
  refine Y.i2b X18 hx (hb hby d14_104) rfl ?_
  obtain ⟨T19, h19, X19, e19, W19, V19, st19⟩ := own_stB X18 hx hZ e18 V_bn16 (j := (2 : Int32)) (i := 2) (by decide) (by decide) (Nat.lt_of_lt_of_eq (by decide : 2 < 4) rfl) (g := (mkF m 105 #[.val (.int (0 : Int32)), .val (.ref a2), .val (.int (1 : Int32)), .val (.int (3 : Int32)), .val (.ref bn16), .val (.ref a2), .val (.int (2 : Int32)), .val (.int (1 : Int32)), .val (.int (nar .byte (c1.toInt8.toInt32)))] [(.int (((128 : Int32) ||| ((nar .byte (c1.toInt8.toInt32)) &&& (63 : Int32))).toInt8.toInt32)), (.int (2 : Int32)), (.ref bn16)])) rfl rfl (hb hby d14_105)
  refine Gl.pre (fun _ k => st19 _ k) ?_
  have V_a2 := V_a2.other W19 (own_ne_a2_bn16)
  have E_a2 := E_a2.wr W19
  have O_ := O_.wr W19 g_bn16
  have E_bn16 := E_bn16.wr W19
  have Z19 : n0 ≤ h19.size := by rw [W19.size]; exact Z18
  have N19 := Fr.snoc X19 N18 g_bn16
  have K19 := K18.wr W19 (Or.inr sz_bn16)
  have V_bn16 : Bal Z h19 bn16 .byte [(nar .byte (nar .byte (c0.toInt8.toInt32))), (nar .byte (((192 : Int32) ||| (((nar .byte (c1.toInt8.toInt32)) &&& (255 : Int32)) >>> ((6 : Int32) &&& 31))).toInt8.toInt32)), (nar .byte (((128 : Int32) ||| ((nar .byte (c1.toInt8.toInt32)) &&& (63 : Int32))).toInt8.toInt32)), (0 : Int32)] := V19
  refine Y.goto X19 hx (pc0 := 106) (pc' := 118) rfl (hb hby d14_106) (by decide) (by decide) ?_
  refine Y.iinc X19 hx (hb hby d14_118) rfl (l' := #[.val (.int (0 : Int32)), .val (.ref a2), .val (.int (1 : Int32)), .val (.int (3 : Int32)), .val (.ref bn16), .val (.ref a2), .val (.int (2 : Int32)), .val (.int (2 : Int32)), .val (.int (nar .byte (c1.toInt8.toInt32)))]) rfl ?_
  refine Y.goto X19 hx (pc0 := 121) (pc' := 49) rfl (hb hby d14_121) (by decide) (by decide) ?_
  refine Y.iload X19 hx (hb hby d14_49) rfl ?_
  refine Y.iload X19 hx (hb hby d14_51) rfl ?_
  refine Y.icmpYes X19 hx (pc0 := 53) (pc' := 124) rfl (hb hby d14_53) rfl (flt (show ¬ ((2 : Int32) < (2 : Int32)) from (by decide))).2.1 (by decide) (by decide) ?_
  refine Y.iloadN X19 hx (hb hby d14_124) rfl ?_
  refine Y.aload X19 hx (hb hby d14_125) rfl rfl ?_
  refine Gl.pre (fun _ k => own_len X19 hx hZ e19 V_bn16 (v := (4 : Int32)) rfl (g := (mkF m 127 #[.val (.int (0 : Int32)), .val (.ref a2), .val (.int (1 : Int32)), .val (.int (3 : Int32)), .val (.ref bn16), .val (.ref a2), .val (.int (2 : Int32)), .val (.int (2 : Int32)), .val (.int (nar .byte (c1.toInt8.toInt32)))] [(.ref bn16), (.int (3 : Int32))])) rfl rfl (hb hby d14_127) _ k) ?_
  refine Y.icmpYes X19 hx (pc0 := 128) (pc' := 134) rfl (hb hby d14_128) rfl (feq (show ¬ ((3 : Int32) = (4 : Int32)) from (by decide))).2 (by decide) (by decide) ?_
  refine Y.aload X19 hx (hb hby d14_134) rfl rfl ?_
  refine Y.iloadN X19 hx (hb hby d14_136) rfl ?_
  obtain ⟨_, _, ⟨T20, L20, k20, n20⟩, -, X20, ⟨Lc20, hQ20, l20, y20, z20⟩, st20⟩ := Jvm.LawKit.callS X19 hx (y := (⟨"java/util/Arrays", "copyOf", "([BI)[B"⟩ : MethodName)) hown (mvT hZ (W 129 rfl)) (mvT hZ (W 130 rfl)) (mvT hZ (W 131 rfl)) (mvT hZ (W 132 rfl)) (by decide) (backOf (W := 0) (rmco4_3 l Z a0 hw [] bn16 (nar .byte (nar .byte (c0.toInt8.toInt32))) (nar .byte (((192 : Int32) ||| (((nar .byte (c1.toInt8.toInt32)) &&& (255 : Int32)) >>> ((6 : Int32) &&& 31))).toInt8.toInt32)) (nar .byte (((128 : Int32) ||| ((nar .byte (c1.toInt8.toInt32)) &&& (63 : Int32))).toInt8.toInt32)) (0 : Int32) h19 n0 Z19 V_bn16 (by intro x hx; simp only [List.mem_cons, List.not_mem_nil, or_false] at hx; rcases hx with rfl | rfl | rfl | rfl <;> first | exact fits_nar_byte _ | rfl)) hZ (W 132 rfl) (W 131 rfl) (by decide) (by decide)) (g := (mkF m 137 #[.val (.int (0 : Int32)), .val (.ref a2), .val (.int (1 : Int32)), .val (.int (3 : Int32)), .val (.ref bn16), .val (.ref a2), .val (.int (2 : Int32)), .val (.int (2 : Int32)), .val (.int (nar .byte (c1.toInt8.toInt32)))] [(.int (3 : Int32)), (.ref bn16)])) rfl (by rw [hml]; rfl) (argsL := [(.ref bn16), (.int (3 : Int32))]) (rest := []) (lenOf pd_10 rfl) rfl (by show 2 * 0 + _ ≤ _; exact Nat.le_of_eq rfl) (hb hby d14_137) (fun _ _ => ⟨rfl, e19, (by decide : 1 + 1 ≤ _), (by decide : 4 + 3 ≤ _)⟩)
  dsimp only [Pt.U, Pt.locs, Pt.cells, Pt.slots] at X20 l20 y20 z20 st20 hQ20
  subst l20 y20 z20
  obtain ⟨bo20, rfl, N20q, hz20, K20, V20q⟩ := hQ20
  have N20 := Fr.app N19 N20q
  refine Gl.pre (fun _ k => st20 _ k) ?_
  have own_ne_a2_bo20 : a2 ≠ bo20 := Nat.ne_of_lt (Nat.lt_of_lt_of_le V_a2.lt hz20)
  have own_ne_bo20_a2 := own_ne_a2_bo20.symm
  have own_ne_bn16_bo20 : bn16 ≠ bo20 := Nat.ne_of_lt (Nat.lt_of_lt_of_le E_bn16.lt hz20)
  have own_ne_bo20_bn16 := own_ne_bn16_bo20.symm
  have g_bo20 : n0 ≤ bo20 := Nat.le_trans Z19 hz20
  have sz_bo20 : h0.size ≤ bo20 := Nat.le_trans K19.1 hz20
  have V_a2 := V_a2.keep K20 nin0
  have E_a2 := E_a2.keep K20
  have O_ := O_.keep K20 all0
  have E_bn16 := E_bn16.keep K20
  have V_bn16 := V_bn16.keep K20 nin0
  have Z20 : n0 ≤ T20.heap.size := Nat.le_trans Z19 K20.1
  have K20k := K19.trans K20 all0
  have V_bo20 := V20q
  rw [hPP]
  refine own_finA (Q := (Qeu Z co a2 xs ys h0 n0)) X20 hx hlk Bd.returns rfl rfl (hb hby d14_140) ?_ (by decide) (by decide)
  show Qeu Z co a2 xs ys h0 n0 _ T20.heap _
  refine ⟨bo20, rfl, N20, sz_bo20, K20k, ?_⟩
  rw [hxe]
  rw [own_ue2, own_u1a hd0, own_u1b hd1 (own_2048 hc1)]; simp only [List.cons_append, List.nil_append]
  rw [own_nnb c0, own_y255 hr1.1 hc1, own_y63 c1] at V_bo20
  exact V_bo20
  have hs0 := own_lbn hc0 hd0
  by_cases hd1 : c1 < (128 : Int32)
  have hs1 := own_lbp hr1.1 hd1
  show Gl p.tables e below PP (s₁.setTop (mkF m 0 #[.val (.int (0 : Int32)), .val (.ref a2), .val (.int (1 : Int32)), .unset, .unset, .unset, .unset, .unset, .unset] []))
  refine Y.iloadN X0 hx (hb hby d14_0) rfl ?_
  refine Y.iconst X0 hx (hb hby d14_1) ?_
  refine Y.icmpYes X0 hx (pc0 := 2) (pc' := 11) rfl (hb hby d14_2) rfl (feq (show ¬ ((0 : Int32) = (1 : Int32)) from (by decide))).2 (by decide) (by decide) ?_
  refine Y.aloadN X0 hx (hb hby d14_11) rfl rfl ?_
  refine Y.iconst X0 hx (hb hby d14_12) ?_
  refine Y.aloadN X0 hx (hb hby d14_13) rfl rfl ?_
  refine Gl.pre (fun _ k => own_len X0 hx hZ e0 V_a2 (v := (2 : Int32)) rfl (g := (mkF m 14 #[.val (.int (0 : Int32)), .val (.ref a2), .val (.int (1 : Int32)), .unset, .unset, .unset, .unset, .unset, .unset] [(.ref a2), (.int (0 : Int32)), (.ref a2)])) rfl rfl (hb hby d14_14) _ k) ?_
  obtain ⟨_, _, ⟨T21, L21, k21, n21⟩, -, X21, ⟨Lc21, hQ21, l21, y21, z21⟩, st21⟩ := Jvm.LawKit.callS X0 hx (y := (⟨"java/lang/StringCoding", "hasNegatives", "([BII)Z"⟩ : MethodName)) hown (mvT hZ (W 69 rfl)) (mvT hZ (W 70 rfl)) (mvT hZ (W 71 rfl)) (mvT hZ (W 72 rfl)) (by decide) (backOf (W := 0) (rmhn2_0 l Z a0 hw [] a2 (nar .byte (c0.toInt8.toInt32)) (nar .byte (c1.toInt8.toInt32)) h0 n0 Z0 V_a2 hs0) hZ (W 72 rfl) (W 71 rfl) (by decide) (by decide)) (g := (mkF m 15 #[.val (.int (0 : Int32)), .val (.ref a2), .val (.int (1 : Int32)), .unset, .unset, .unset, .unset, .unset, .unset] [(.int (2 : Int32)), (.int (0 : Int32)), (.ref a2)])) rfl (by rw [hml]; rfl) (argsL := [(.ref a2), (.int (0 : Int32)), (.int (2 : Int32))]) (rest := []) (lenOf pd_12 rfl) rfl (by show 2 * 0 + _ ≤ _; exact Nat.le_of_eq rfl) (hb hby d14_15) (fun _ _ => ⟨rfl, e0, (by decide : 0 + 0 ≤ _), (by decide : 0 + 0 ≤ _)⟩)
  dsimp only [Pt.U, Pt.locs, Pt.cells, Pt.slots] at X21 l21 y21 z21 st21 hQ21
  subst l21 y21 z21
  obtain ⟨rfl, N21q, e21⟩ := hQ21
  have N21 := Fr.app N0 N21q
  refine Gl.pre (fun _ k => st21 _ k) ?_
  refine Y.ifYes X21 hx (pc0 := 18) (pc' := 29) rfl (hb hby d14_18) rfl ((if0 _ _).trans (feq (show ¬ ((1 : Int32) = (0 : Int32)) from (by decide))).2) (by decide) (by decide) ?_
  refine Y.iconst X21 hx (hb hby d14_29) ?_
  refine Y.istoreN X21 hx (hb hby d14_30) rfl (l' := #[.val (.int (0 : Int32)), .val (.ref a2), .val (.int (1 : Int32)), .val (.int (0 : Int32)), .unset, .unset, .unset, .unset, .unset]) rfl ?_
  refine Y.aloadN X21 hx (hb hby d14_31) rfl rfl ?_
  refine Gl.pre (fun _ k => own_len X21 hx hZ e21 V_a2 (v := (2 : Int32)) rfl (g := (mkF m 32 #[.val (.int (0 : Int32)), .val (.ref a2), .val (.int (1 : Int32)), .val (.int (0 : Int32)), .unset, .unset, .unset, .unset, .unset] [(.ref a2)])) rfl rfl (hb hby d14_32) _ k) ?_
  obtain ⟨_, _, ⟨T22, L22, k22, n22⟩, -, X22, ⟨Lc22, hQ22, l22, y22, z22⟩, st22⟩ := Jvm.LawKit.callS X21 hx (y := (⟨"java/lang/StringUTF16", "newBytesFor", "(I)[B"⟩ : MethodName)) hown (mvT hZ (W 98 rfl)) (mvT hZ (W 99 rfl)) (mvT hZ (W 26 rfl)) (mvT hZ (W 100 rfl)) (by decide) (backOf (W := 0) (rmnf2 l Z a0 hw []  h0 n0 Z0 ) hZ (W 100 rfl) (W 26 rfl) (by decide) (by decide)) (g := (mkF m 33 #[.val (.int (0 : Int32)), .val (.ref a2), .val (.int (1 : Int32)), .val (.int (0 : Int32)), .unset, .unset, .unset, .unset, .unset] [(.int (2 : Int32))])) rfl (by rw [hml]; rfl) (argsL := [(.int (2 : Int32))]) (rest := []) (lenOf pd_1 rfl) rfl (by show 2 * 0 + _ ≤ _; exact Nat.le_of_eq rfl) (hb hby d14_33) (fun _ _ => ⟨rfl, e21, (by decide : 0 + 1 ≤ _), (by decide : 0 + 4 ≤ _)⟩)
  dsimp only [Pt.U, Pt.locs, Pt.cells, Pt.slots] at X22 l22 y22 z22 st22 hQ22
  subst l22 y22 z22
  obtain ⟨bn22, rfl, N22q, hz22, K22, V22q, Eb22⟩ := hQ22
  have N22 := Fr.app N21 N22q
  refine Gl.pre (fun _ k => st22 _ k) ?_
  have own_ne_a2_bn22 : a2 ≠ bn22 := Nat.ne_of_lt (Nat.lt_of_lt_of_le V_a2.lt hz22)
  have own_ne_bn22_a2 := own_ne_a2_bn22.symm
  have g_bn22 : n0 ≤ bn22 := Nat.le_trans Z0 hz22
  have sz_bn22 : h0.size ≤ bn22 := Nat.le_trans K0.1 hz22
  have V_a2 := V_a2.keep K22 nin0
  have E_a2 := E_a2.keep K22
  have O_ := O_.keep K22 all0
  have Z22 : n0 ≤ T22.heap.size := Nat.le_trans Z0 K22.1
  have K22k := K0.trans K22 all0
  have V_bn22 := V22q
  have E_bn22 := Eb22
  refine Y.astore X22 hx (hb hby d14_36) rfl rfl (l' := #[.val (.int (0 : Int32)), .val (.ref a2), .val (.int (1 : Int32)), .val (.int (0 : Int32)), .val (.ref bn22), .unset, .unset, .unset, .unset]) rfl ?_
  refine Y.aloadN X22 hx (hb hby d14_38) rfl rfl ?_
  refine Y.astore X22 hx (hb hby d14_39) rfl rfl (l' := #[.val (.int (0 : Int32)), .val (.ref a2), .val (.int (1 : Int32)), .val (.int (0 : Int32)), .val (.ref bn22), .val (.ref a2), .unset, .unset, .unset]) rfl ?_
  refine Y.aload X22 hx (hb hby d14_41) rfl rfl ?_
  refine Gl.pre (fun _ k => own_len X22 hx hZ rfl V_a2 (v := (2 : Int32)) rfl (g := (mkF m 43 #[.val (.int (0 : Int32)), .val (.ref a2), .val (.int (1 : Int32)), .val (.int (0 : Int32)), .val (.ref bn22), .val (.ref a2), .unset, .unset, .unset] [(.ref a2)])) rfl rfl (hb hby d14_43) _ k) ?_
  refine Y.istore X22 hx (hb hby d14_44) rfl (l' := #[.val (.int (0 : Int32)), .val (.ref a2), .val (.int (1 : Int32)), .val (.int (0 : Int32)), .val (.ref bn22), .val (.ref a2), .val (.int (2 : Int32)), .unset, .unset]) rfl ?_
  refine Y.iconst X22 hx (hb hby d14_46) ?_
  refine Y.istore X22 hx (hb hby d14_47) rfl (l' := #[.val (.int (0 : Int32)), .val (.ref a2), .val (.int (1 : Int32)), .val (.int (0 : Int32)), .val (.ref bn22), .val (.ref a2), .val (.int (2 : Int32)), .val (.int (0 : Int32)), .unset]) rfl ?_
  refine Y.iload X22 hx (hb hby d14_49) rfl ?_
  refine Y.iload X22 hx (hb hby d14_51) rfl ?_
  refine Y.icmpNo X22 hx (hb hby d14_53) rfl (tlt (show (0 : Int32) < (2 : Int32) from (by decide))).2.1 ?_
  refine Y.aload X22 hx (hb hby d14_56) rfl rfl ?_
  refine Y.iload X22 hx (hb hby d14_58) rfl ?_
  refine Gl.pre (fun _ k => own_ldB X22 hx hZ rfl V_a2 (j := (0 : Int32)) (i := 0) (by decide) (by decide) (Nat.lt_of_lt_of_eq (by decide : 0 < 2) rfl) (v := (nar .byte (c0.toInt8.toInt32))) rfl (g := (mkF m 60 #[.val (.int (0 : Int32)), .val (.ref a2), .val (.int (1 : Int32)), .val (.int (0 : Int32)), .val (.ref bn22), .val (.ref a2), .val (.int (2 : Int32)), .val (.int (0 : Int32)), .unset] [(.int (0 : Int32)), (.ref a2)])) rfl rfl (hb hby d14_60) _ k) ?_
  refine Y.istore X22 hx (hb hby d14_61) rfl (l' := #[.val (.int (0 : Int32)), .val (.ref a2), .val (.int (1 : Int32)), .val (.int (0 : Int32)), .val (.ref bn22), .val (.ref a2), .val (.int (2 : Int32)), .val (.int (0 : Int32)), .val (.int (nar .byte (c0.toInt8.toInt32)))]) rfl ?_
  refine Y.iload X22 hx (hb hby d14_63) rfl ?_
  refine Y.ifNo X22 hx (hb hby d14_65) rfl ((if0 _ _).trans (tlt (show (nar .byte (c0.toInt8.toInt32)) < (0 : Int32) from hs0)).2.1) ?_
  refine Y.aload X22 hx (hb hby d14_68) rfl rfl ?_
  refine Y.iloadN X22 hx (hb hby d14_70) rfl ?_
  refine Y.iinc X22 hx (hb hby d14_71) rfl (l' := #[.val (.int (0 : Int32)), .val (.ref a2), .val (.int (1 : Int32)), .val (.int (1 : Int32)), .val (.ref bn22), .val (.ref a2), .val (.int (2 : Int32)), .val (.int (0 : Int32)), .val (.int (nar .byte (c0.toInt8.toInt32)))]) rfl ?_
  refine Y.sipush X22 hx (hb hby d14_74) ?_
  refine Y.iload X22 hx (hb hby d14_77) rfl ?_
  refine Y.sipush X22 hx (hb hby d14_79) ?_
  refine Y.iand X22 hx (hb hby d14_82) rfl ?_
  refine Y.bipush X22 hx (hb hby d14_83) ?_
  refine Y.ishr X22 hx (hb hby d14_85) rfl ?_
  refine Y.ior X22 hx (hb hby d14_86) rfl ?_
  refine Y.i2b X22 hx (hb hby d14_87) rfl ?_
  obtain ⟨T23, h23, X23, e23, W23, V23, st23⟩ := own_stB X22 hx hZ rfl V_bn22 (j := (0 : Int32)) (i := 0) (by decide) (by decide) (Nat.lt_of_lt_of_eq (by decide : 0 < 4) rfl) (g := (mkF m 88 #[.val (.int (0 : Int32)), .val (.ref a2), .val (.int (1 : Int32)), .val (.int (1 : Int32)), .val (.ref bn22), .val (.ref a2), .val (.int (2 : Int32)), .val (.int (0 : Int32)), .val (.int (nar .byte (c0.toInt8.toInt32)))] [(.int (((192 : Int32) ||| (((nar .byte (c0.toInt8.toInt32)) &&& (255 : Int32)) >>> ((6 : Int32) &&& 31))).toInt8.toInt32)), (.int (0 : Int32)), (.ref bn22)])) rfl rfl (hb hby d14_88)
  refine Gl.pre (fun _ k => st23 _ k) ?_
  have V_a2 := V_a2.other W23 (own_ne_a2_bn22)
  have E_a2 := E_a2.wr W23
  have O_ := O_.wr W23 g_bn22
  have E_bn22 := E_bn22.wr W23
  have Z23 : n0 ≤ h23.size := by rw [W23.size]; exact Z22
  have N23 := Fr.snoc X23 N22 g_bn22
  have K23 := K22k.wr W23 (Or.inr sz_bn22)
  have V_bn22 : Bal Z h23 bn22 .byte [(nar .byte (((192 : Int32) ||| (((nar .byte (c0.toInt8.toInt32)) &&& (255 : Int32)) >>> ((6 : Int32) &&& 31))).toInt8.toInt32)), (0 : Int32), (0 : Int32), (0 : Int32)] := V23
  refine Y.aload X23 hx (hb hby d14_89) rfl rfl ?_
  refine Y.iloadN X23 hx (hb hby d14_91) rfl ?_
  refine Y.iinc X23 hx (hb hby d14_92) rfl (l' := #[.val (.int (0 : Int32)), .val (.ref a2), .val (.int (1 : Int32)), .val (.int (2 : Int32)), .val (.ref bn22), .val (.ref a2), .val (.int (2 : Int32)), .val (.int (0 : Int32)), .val (.int (nar .byte (c0.toInt8.toInt32)))]) rfl ?_
  refine Y.sipush X23 hx (hb hby d14_95) ?_
  refine Y.iload X23 hx (hb hby d14_98) rfl ?_
  refine Y.bipush X23 hx (hb hby d14_100) ?_
  refine Y.iand X23 hx (hb hby d14_102) rfl ?_
  refine Y.ior X23 hx (hb hby d14_103) rfl ?_
  refine Y.i2b X23 hx (hb hby d14_104) rfl ?_
  obtain ⟨T24, h24, X24, e24, W24, V24, st24⟩ := own_stB X23 hx hZ e23 V_bn22 (j := (1 : Int32)) (i := 1) (by decide) (by decide) (Nat.lt_of_lt_of_eq (by decide : 1 < 4) rfl) (g := (mkF m 105 #[.val (.int (0 : Int32)), .val (.ref a2), .val (.int (1 : Int32)), .val (.int (2 : Int32)), .val (.ref bn22), .val (.ref a2), .val (.int (2 : Int32)), .val (.int (0 : Int32)), .val (.int (nar .byte (c0.toInt8.toInt32)))] [(.int (((128 : Int32) ||| ((nar .byte (c0.toInt8.toInt32)) &&& (63 : Int32))).toInt8.toInt32)), (.int (1 : Int32)), (.ref bn22)])) rfl rfl (hb hby d14_105)
  refine Gl.pre (fun _ k => st24 _ k) ?_
  have V_a2 := V_a2.other W24 (own_ne_a2_bn22)
  have E_a2 := E_a2.wr W24
  have O_ := O_.wr W24 g_bn22
  have E_bn22 := E_bn22.wr W24
  have Z24 : n0 ≤ h24.size := by rw [W24.size]; exact Z23
  have N24 := Fr.snoc X24 N23 g_bn22
  have K24 := K23.wr W24 (Or.inr sz_bn22)
  have V_bn22 : Bal Z h24 bn22 .byte [(nar .byte (((192 : Int32) ||| (((nar .byte (c0.toInt8.toInt32)) &&& (255 : Int32)) >>> ((6 : Int32) &&& 31))).toInt8.toInt32)), (nar .byte (((128 : Int32) ||| ((nar .byte (c0.toInt8.toInt32)) &&& (63 : Int32))).toInt8.toInt32)), (0 : Int32), (0 : Int32)] := V24
  refine Y.goto X24 hx (pc0 := 106) (pc' := 118) rfl (hb hby d14_106) (by decide) (by decide) ?_
  refine Y.iinc X24 hx (hb hby d14_118) rfl (l' := #[.val (.int (0 : Int32)), .val (.ref a2), .val (.int (1 : Int32)), .val (.int (2 : Int32)), .val (.ref bn22), .val (.ref a2), .val (.int (2 : Int32)), .val (.int (1 : Int32)), .val (.int (nar .byte (c0.toInt8.toInt32)))]) rfl ?_
  refine Y.goto X24 hx (pc0 := 121) (pc' := 49) rfl (hb hby d14_121) (by decide) (by decide) ?_
  refine Y.iload X24 hx (hb hby d14_49) rfl ?_
  refine Y.iload X24 hx (hb hby d14_51) rfl ?_
  refine Y.icmpNo X24 hx (hb hby d14_53) rfl (tlt (show (1 : Int32) < (2 : Int32) from (by decide))).2.1 ?_
  refine Y.aload X24 hx (hb hby d14_56) rfl rfl ?_
  refine Y.iload X24 hx (hb hby d14_58) rfl ?_
  refine Gl.pre (fun _ k => own_ldB X24 hx hZ e24 V_a2 (j := (1 : Int32)) (i := 1) (by decide) (by decide) (Nat.lt_of_lt_of_eq (by decide : 1 < 2) rfl) (v := (nar .byte (c1.toInt8.toInt32))) rfl (g := (mkF m 60 #[.val (.int (0 : Int32)), .val (.ref a2), .val (.int (1 : Int32)), .val (.int (2 : Int32)), .val (.ref bn22), .val (.ref a2), .val (.int (2 : Int32)), .val (.int (1 : Int32)), .val (.int (nar .byte (c0.toInt8.toInt32)))] [(.int (1 : Int32)), (.ref a2)])) rfl rfl (hb hby d14_60) _ k) ?_
  refine Y.istore X24 hx (hb hby d14_61) rfl (l' := #[.val (.int (0 : Int32)), .val (.ref a2), .val (.int (1 : Int32)), .val (.int (2 : Int32)), .val (.ref bn22), .val (.ref a2), .val (.int (2 : Int32)), .val (.int (1 : Int32)), .val (.int (nar .byte (c1.toInt8.toInt32)))]) rfl ?_
  refine Y.iload X24 hx (hb hby d14_63) rfl ?_
  refine Y.ifYes X24 hx (pc0 := 65) (pc' := 109) rfl (hb hby d14_65) rfl ((if0 _ _).trans (flt (show ¬ ((nar .byte (c1.toInt8.toInt32)) < (0 : Int32)) from hs1)).2.1) (by decide) (by decide) ?_
  refine Y.aload X24 hx (hb hby d14_109) rfl rfl ?_
  refine Y.iloadN X24 hx (hb hby d14_111) rfl ?_
  refine Y.iinc X24 hx (hb hby d14_112) rfl (l' := #[.val (.int (0 : Int32)), .val (.ref a2), .val (.int (1 : Int32)), .val (.int (3 : Int32)), .val (.ref bn22), .val (.ref a2), .val (.int (2 : Int32)), .val (.int (1 : Int32)), .val (.int (nar .byte (c1.toInt8.toInt32)))]) rfl ?_
  refine Y.iload X24 hx (hb hby d14_115) rfl ?_
  obtain ⟨T25, h25, X25, e25, W25, V25, st25⟩ := own_stB X24 hx hZ e24 V_bn22 (j := (2 : Int32)) (i := 2) (by decide) (by decide) (Nat.lt_of_lt_of_eq (by decide : 2 < 4) rfl) (g := (mkF m 117 #[.val (.int (0 : Int32)), .val (.ref a2), .val (.int (1 : Int32)), .val (.int (3 : Int32)), .val (.ref bn22), .val (.ref a2), .val (.int (2 : Int32)), .val (.int (1 : Int32)), .val (.int (nar .byte (c1.toInt8.toInt32)))] [(.int (nar .byte (c1.toInt8.toInt32))), (.int (2 : Int32)), (.ref bn22)])) rfl rfl (hb hby d14_117)
  refine Gl.pre (fun _ k => st25 _ k) ?_
  have V_a2 := V_a2.other W25 (own_ne_a2_bn22)
  have E_a2 := E_a2.wr W25
  have O_ := O_.wr W25 g_bn22
  have E_bn22 := E_bn22.wr W25
  have Z25 : n0 ≤ h25.size := by rw [W25.size]; exact Z24
  have N25 := Fr.snoc X25 N24 g_bn22
  have K25 := K24.wr W25 (Or.inr sz_bn22)
  have V_bn22 : Bal Z h25 bn22 .byte [(nar .byte (((192 : Int32) ||| (((nar .byte (c0.toInt8.toInt32)) &&& (255 : Int32)) >>> ((6 : Int32) &&& 31))).toInt8.toInt32)), (nar .byte (((128 : Int32) ||| ((nar .byte (c0.toInt8.toInt32)) &&& (63 : Int32))).toInt8.toInt32)), (nar .byte (nar .byte (c1.toInt8.toInt32))), (0 : Int32)] := V25
  refine Y.iinc X25 hx (hb hby d14_118) rfl (l' := #[.val (.int (0 : Int32)), .val (.ref a2), .val (.int (1 : Int32)), .val (.int (3 : Int32)), .val (.ref bn22), .val (.ref a2), .val (.int (2 : Int32)), .val (.int (2 : Int32)), .val (.int (nar .byte (c1.toInt8.toInt32)))]) rfl ?_
  refine Y.goto X25 hx (pc0 := 121) (pc' := 49) rfl (hb hby d14_121) (by decide) (by decide) ?_
  refine Y.iload X25 hx (hb hby d14_49) rfl ?_
  refine Y.iload X25 hx (hb hby d14_51) rfl ?_
  refine Y.icmpYes X25 hx (pc0 := 53) (pc' := 124) rfl (hb hby d14_53) rfl (flt (show ¬ ((2 : Int32) < (2 : Int32)) from (by decide))).2.1 (by decide) (by decide) ?_
  refine Y.iloadN X25 hx (hb hby d14_124) rfl ?_
  refine Y.aload X25 hx (hb hby d14_125) rfl rfl ?_
  refine Gl.pre (fun _ k => own_len X25 hx hZ e25 V_bn22 (v := (4 : Int32)) rfl (g := (mkF m 127 #[.val (.int (0 : Int32)), .val (.ref a2), .val (.int (1 : Int32)), .val (.int (3 : Int32)), .val (.ref bn22), .val (.ref a2), .val (.int (2 : Int32)), .val (.int (2 : Int32)), .val (.int (nar .byte (c1.toInt8.toInt32)))] [(.ref bn22), (.int (3 : Int32))])) rfl rfl (hb hby d14_127) _ k) ?_
  refine Y.icmpYes X25 hx (pc0 := 128) (pc' := 134) rfl (hb hby d14_128) rfl (feq (show ¬ ((3 : Int32) = (4 : Int32)) from (by decide))).2 (by decide) (by decide) ?_
  refine Y.aload X25 hx (hb hby d14_134) rfl rfl ?_
  refine Y.iloadN X25 hx (hb hby d14_136) rfl ?_
  obtain ⟨_, _, ⟨T26, L26, k26, n26⟩, -, X26, ⟨Lc26, hQ26, l26, y26, z26⟩, st26⟩ := Jvm.LawKit.callS X25 hx (y := (⟨"java/util/Arrays", "copyOf", "([BI)[B"⟩ : MethodName)) hown (mvT hZ (W 129 rfl)) (mvT hZ (W 130 rfl)) (mvT hZ (W 131 rfl)) (mvT hZ (W 132 rfl)) (by decide) (backOf (W := 0) (rmco4_3 l Z a0 hw [] bn22 (nar .byte (((192 : Int32) ||| (((nar .byte (c0.toInt8.toInt32)) &&& (255 : Int32)) >>> ((6 : Int32) &&& 31))).toInt8.toInt32)) (nar .byte (((128 : Int32) ||| ((nar .byte (c0.toInt8.toInt32)) &&& (63 : Int32))).toInt8.toInt32)) (nar .byte (nar .byte (c1.toInt8.toInt32))) (0 : Int32) h25 n0 Z25 V_bn22 (by intro x hx; simp only [List.mem_cons, List.not_mem_nil, or_false] at hx; rcases hx with rfl | rfl | rfl | rfl <;> first | exact fits_nar_byte _ | rfl)) hZ (W 132 rfl) (W 131 rfl) (by decide) (by decide)) (g := (mkF m 137 #[.val (.int (0 : Int32)), .val (.ref a2), .val (.int (1 : Int32)), .val (.int (3 : Int32)), .val (.ref bn22), .val (.ref a2), .val (.int (2 : Int32)), .val (.int (2 : Int32)), .val (.int (nar .byte (c1.toInt8.toInt32)))] [(.int (3 : Int32)), (.ref bn22)])) rfl (by rw [hml]; rfl) (argsL := [(.ref bn22), (.int (3 : Int32))]) (rest := []) (lenOf pd_10 rfl) rfl (by show 2 * 0 + _ ≤ _; exact Nat.le_of_eq rfl) (hb hby d14_137) (fun _ _ => ⟨rfl, e25, (by decide : 1 + 1 ≤ _), (by decide : 4 + 3 ≤ _)⟩)
  dsimp only [Pt.U, Pt.locs, Pt.cells, Pt.slots] at X26 l26 y26 z26 st26 hQ26
  subst l26 y26 z26
  obtain ⟨bo26, rfl, N26q, hz26, K26, V26q⟩ := hQ26
  have N26 := Fr.app N25 N26q
  refine Gl.pre (fun _ k => st26 _ k) ?_
  have own_ne_a2_bo26 : a2 ≠ bo26 := Nat.ne_of_lt (Nat.lt_of_lt_of_le V_a2.lt hz26)
  have own_ne_bo26_a2 := own_ne_a2_bo26.symm
  have own_ne_bn22_bo26 : bn22 ≠ bo26 := Nat.ne_of_lt (Nat.lt_of_lt_of_le E_bn22.lt hz26)
  have own_ne_bo26_bn22 := own_ne_bn22_bo26.symm
  have g_bo26 : n0 ≤ bo26 := Nat.le_trans Z25 hz26
  have sz_bo26 : h0.size ≤ bo26 := Nat.le_trans K25.1 hz26
  have V_a2 := V_a2.keep K26 nin0
  have E_a2 := E_a2.keep K26
  have O_ := O_.keep K26 all0
  have E_bn22 := E_bn22.keep K26
  have V_bn22 := V_bn22.keep K26 nin0
  have Z26 : n0 ≤ T26.heap.size := Nat.le_trans Z25 K26.1
  have K26k := K25.trans K26 all0
  have V_bo26 := V26q
  rw [hPP]
  refine own_finA (Q := (Qeu Z co a2 xs ys h0 n0)) X26 hx hlk Bd.returns rfl rfl (hb hby d14_140) ?_ (by decide) (by decide)
  show Qeu Z co a2 xs ys h0 n0 _ T26.heap _
  refine ⟨bo26, rfl, N26, sz_bo26, K26k, ?_⟩
  rw [hxe]
  rw [own_ue2, own_u1b hd0 (own_2048 hc0), own_u1a hd1]; simp only [List.cons_append, List.nil_append]
  rw [own_y255 hr0.1 hc0, own_y63 c0, own_nnb c1] at V_bo26
  exact V_bo26
  have hs1 := own_lbn hc1 hd1
  show Gl p.tables e below PP (s₁.setTop (mkF m 0 #[.val (.int (0 : Int32)), .val (.ref a2), .val (.int (1 : Int32)), .unset, .unset, .unset, .unset, .unset, .unset] []))
  refine Y.iloadN X0 hx (hb hby d14_0) rfl ?_
  refine Y.iconst X0 hx (hb hby d14_1) ?_
  refine Y.icmpYes X0 hx (pc0 := 2) (pc' := 11) rfl (hb hby d14_2) rfl (feq (show ¬ ((0 : Int32) = (1 : Int32)) from (by decide))).2 (by decide) (by decide) ?_
  refine Y.aloadN X0 hx (hb hby d14_11) rfl rfl ?_
  refine Y.iconst X0 hx (hb hby d14_12) ?_
  refine Y.aloadN X0 hx (hb hby d14_13) rfl rfl ?_
  refine Gl.pre (fun _ k => own_len X0 hx hZ e0 V_a2 (v := (2 : Int32)) rfl (g := (mkF m 14 #[.val (.int (0 : Int32)), .val (.ref a2), .val (.int (1 : Int32)), .unset, .unset, .unset, .unset, .unset, .unset] [(.ref a2), (.int (0 : Int32)), (.ref a2)])) rfl rfl (hb hby d14_14) _ k) ?_
  obtain ⟨_, _, ⟨T27, L27, k27, n27⟩, -, X27, ⟨Lc27, hQ27, l27, y27, z27⟩, st27⟩ := Jvm.LawKit.callS X0 hx (y := (⟨"java/lang/StringCoding", "hasNegatives", "([BII)Z"⟩ : MethodName)) hown (mvT hZ (W 69 rfl)) (mvT hZ (W 70 rfl)) (mvT hZ (W 71 rfl)) (mvT hZ (W 72 rfl)) (by decide) (backOf (W := 0) (rmhn2_0 l Z a0 hw [] a2 (nar .byte (c0.toInt8.toInt32)) (nar .byte (c1.toInt8.toInt32)) h0 n0 Z0 V_a2 hs0) hZ (W 72 rfl) (W 71 rfl) (by decide) (by decide)) (g := (mkF m 15 #[.val (.int (0 : Int32)), .val (.ref a2), .val (.int (1 : Int32)), .unset, .unset, .unset, .unset, .unset, .unset] [(.int (2 : Int32)), (.int (0 : Int32)), (.ref a2)])) rfl (by rw [hml]; rfl) (argsL := [(.ref a2), (.int (0 : Int32)), (.int (2 : Int32))]) (rest := []) (lenOf pd_12 rfl) rfl (by show 2 * 0 + _ ≤ _; exact Nat.le_of_eq rfl) (hb hby d14_15) (fun _ _ => ⟨rfl, e0, (by decide : 0 + 0 ≤ _), (by decide : 0 + 0 ≤ _)⟩)
  dsimp only [Pt.U, Pt.locs, Pt.cells, Pt.slots] at X27 l27 y27 z27 st27 hQ27
  subst l27 y27 z27
  obtain ⟨rfl, N27q, e27⟩ := hQ27
  have N27 := Fr.app N0 N27q
  refine Gl.pre (fun _ k => st27 _ k) ?_
  refine Y.ifYes X27 hx (pc0 := 18) (pc' := 29) rfl (hb hby d14_18) rfl ((if0 _ _).trans (feq (show ¬ ((1 : Int32) = (0 : Int32)) from (by decide))).2) (by decide) (by decide) ?_
  refine Y.iconst X27 hx (hb hby d14_29) ?_
  refine Y.istoreN X27 hx (hb hby d14_30) rfl (l' := #[.val (.int (0 : Int32)), .val (.ref a2), .val (.int (1 : Int32)), .val (.int (0 : Int32)), .unset, .unset, .unset, .unset, .unset]) rfl ?_
  refine Y.aloadN X27 hx (hb hby d14_31) rfl rfl ?_
  refine Gl.pre (fun _ k => own_len X27 hx hZ e27 V_a2 (v := (2 : Int32)) rfl (g := (mkF m 32 #[.val (.int (0 : Int32)), .val (.ref a2), .val (.int (1 : Int32)), .val (.int (0 : Int32)), .unset, .unset, .unset, .unset, .unset] [(.ref a2)])) rfl rfl (hb hby d14_32) _ k) ?_
  obtain ⟨_, _, ⟨T28, L28, k28, n28⟩, -, X28, ⟨Lc28, hQ28, l28, y28, z28⟩, st28⟩ := Jvm.LawKit.callS X27 hx (y := (⟨"java/lang/StringUTF16", "newBytesFor", "(I)[B"⟩ : MethodName)) hown (mvT hZ (W 98 rfl)) (mvT hZ (W 99 rfl)) (mvT hZ (W 26 rfl)) (mvT hZ (W 100 rfl)) (by decide) (backOf (W := 0) (rmnf2 l Z a0 hw []  h0 n0 Z0 ) hZ (W 100 rfl) (W 26 rfl) (by decide) (by decide)) (g := (mkF m 33 #[.val (.int (0 : Int32)), .val (.ref a2), .val (.int (1 : Int32)), .val (.int (0 : Int32)), .unset, .unset, .unset, .unset, .unset] [(.int (2 : Int32))])) rfl (by rw [hml]; rfl) (argsL := [(.int (2 : Int32))]) (rest := []) (lenOf pd_1 rfl) rfl (by show 2 * 0 + _ ≤ _; exact Nat.le_of_eq rfl) (hb hby d14_33) (fun _ _ => ⟨rfl, e27, (by decide : 0 + 1 ≤ _), (by decide : 0 + 4 ≤ _)⟩)
  dsimp only [Pt.U, Pt.locs, Pt.cells, Pt.slots] at X28 l28 y28 z28 st28 hQ28
  subst l28 y28 z28
  obtain ⟨bn28, rfl, N28q, hz28, K28, V28q, Eb28⟩ := hQ28
  have N28 := Fr.app N27 N28q
  refine Gl.pre (fun _ k => st28 _ k) ?_
  have own_ne_a2_bn28 : a2 ≠ bn28 := Nat.ne_of_lt (Nat.lt_of_lt_of_le V_a2.lt hz28)
  have own_ne_bn28_a2 := own_ne_a2_bn28.symm
  have g_bn28 : n0 ≤ bn28 := Nat.le_trans Z0 hz28
  have sz_bn28 : h0.size ≤ bn28 := Nat.le_trans K0.1 hz28
  have V_a2 := V_a2.keep K28 nin0
  have E_a2 := E_a2.keep K28
  have O_ := O_.keep K28 all0
  have Z28 : n0 ≤ T28.heap.size := Nat.le_trans Z0 K28.1
  have K28k := K0.trans K28 all0
  have V_bn28 := V28q
  have E_bn28 := Eb28
  refine Y.astore X28 hx (hb hby d14_36) rfl rfl (l' := #[.val (.int (0 : Int32)), .val (.ref a2), .val (.int (1 : Int32)), .val (.int (0 : Int32)), .val (.ref bn28), .unset, .unset, .unset, .unset]) rfl ?_
  refine Y.aloadN X28 hx (hb hby d14_38) rfl rfl ?_
  refine Y.astore X28 hx (hb hby d14_39) rfl rfl (l' := #[.val (.int (0 : Int32)), .val (.ref a2), .val (.int (1 : Int32)), .val (.int (0 : Int32)), .val (.ref bn28), .val (.ref a2), .unset, .unset, .unset]) rfl ?_
  refine Y.aload X28 hx (hb hby d14_41) rfl rfl ?_
  refine Gl.pre (fun _ k => own_len X28 hx hZ rfl V_a2 (v := (2 : Int32)) rfl (g := (mkF m 43 #[.val (.int (0 : Int32)), .val (.ref a2), .val (.int (1 : Int32)), .val (.int (0 : Int32)), .val (.ref bn28), .val (.ref a2), .unset, .unset, .unset] [(.ref a2)])) rfl rfl (hb hby d14_43) _ k) ?_
  refine Y.istore X28 hx (hb hby d14_44) rfl (l' := #[.val (.int (0 : Int32)), .val (.ref a2), .val (.int (1 : Int32)), .val (.int (0 : Int32)), .val (.ref bn28), .val (.ref a2), .val (.int (2 : Int32)), .unset, .unset]) rfl ?_
  refine Y.iconst X28 hx (hb hby d14_46) ?_
  refine Y.istore X28 hx (hb hby d14_47) rfl (l' := #[.val (.int (0 : Int32)), .val (.ref a2), .val (.int (1 : Int32)), .val (.int (0 : Int32)), .val (.ref bn28), .val (.ref a2), .val (.int (2 : Int32)), .val (.int (0 : Int32)), .unset]) rfl ?_
  refine Y.iload X28 hx (hb hby d14_49) rfl ?_
  refine Y.iload X28 hx (hb hby d14_51) rfl ?_
  refine Y.icmpNo X28 hx (hb hby d14_53) rfl (tlt (show (0 : Int32) < (2 : Int32) from (by decide))).2.1 ?_
  refine Y.aload X28 hx (hb hby d14_56) rfl rfl ?_
  refine Y.iload X28 hx (hb hby d14_58) rfl ?_
  refine Gl.pre (fun _ k => own_ldB X28 hx hZ rfl V_a2 (j := (0 : Int32)) (i := 0) (by decide) (by decide) (Nat.lt_of_lt_of_eq (by decide : 0 < 2) rfl) (v := (nar .byte (c0.toInt8.toInt32))) rfl (g := (mkF m 60 #[.val (.int (0 : Int32)), .val (.ref a2), .val (.int (1 : Int32)), .val (.int (0 : Int32)), .val (.ref bn28), .val (.ref a2), .val (.int (2 : Int32)), .val (.int (0 : Int32)), .unset] [(.int (0 : Int32)), (.ref a2)])) rfl rfl (hb hby d14_60) _ k) ?_
  refine Y.istore X28 hx (hb hby d14_61) rfl (l' := #[.val (.int (0 : Int32)), .val (.ref a2), .val (.int (1 : Int32)), .val (.int (0 : Int32)), .val (.ref bn28), .val (.ref a2), .val (.int (2 : Int32)), .val (.int (0 : Int32)), .val (.int (nar .byte (c0.toInt8.toInt32)))]) rfl ?_
  refine Y.iload X28 hx (hb hby d14_63) rfl ?_
  refine Y.ifNo X28 hx (hb hby d14_65) rfl ((if0 _ _).trans (tlt (show (nar .byte (c0.toInt8.toInt32)) < (0 : Int32) from hs0)).2.1) ?_
  refine Y.aload X28 hx (hb hby d14_68) rfl rfl ?_
  refine Y.iloadN X28 hx (hb hby d14_70) rfl ?_
  refine Y.iinc X28 hx (hb hby d14_71) rfl (l' := #[.val (.int (0 : Int32)), .val (.ref a2), .val (.int (1 : Int32)), .val (.int (1 : Int32)), .val (.ref bn28), .val (.ref a2), .val (.int (2 : Int32)), .val (.int (0 : Int32)), .val (.int (nar .byte (c0.toInt8.toInt32)))]) rfl ?_
  refine Y.sipush X28 hx (hb hby d14_74) ?_
  refine Y.iload X28 hx (hb hby d14_77) rfl ?_
  refine Y.sipush X28 hx (hb hby d14_79) ?_
  refine Y.iand X28 hx (hb hby d14_82) rfl ?_
  refine Y.bipush X28 hx (hb hby d14_83) ?_
  refine Y.ishr X28 hx (hb hby d14_85) rfl ?_
  refine Y.ior X28 hx (hb hby d14_86) rfl ?_
  refine Y.i2b X28 hx (hb hby d14_87) rfl ?_
  obtain ⟨T29, h29, X29, e29, W29, V29, st29⟩ := own_stB X28 hx hZ rfl V_bn28 (j := (0 : Int32)) (i := 0) (by decide) (by decide) (Nat.lt_of_lt_of_eq (by decide : 0 < 4) rfl) (g := (mkF m 88 #[.val (.int (0 : Int32)), .val (.ref a2), .val (.int (1 : Int32)), .val (.int (1 : Int32)), .val (.ref bn28), .val (.ref a2), .val (.int (2 : Int32)), .val (.int (0 : Int32)), .val (.int (nar .byte (c0.toInt8.toInt32)))] [(.int (((192 : Int32) ||| (((nar .byte (c0.toInt8.toInt32)) &&& (255 : Int32)) >>> ((6 : Int32) &&& 31))).toInt8.toInt32)), (.int (0 : Int32)), (.ref bn28)])) rfl rfl (hb hby d14_88)
  refine Gl.pre (fun _ k => st29 _ k) ?_
  have V_a2 := V_a2.other W29 (own_ne_a2_bn28)
  have E_a2 := E_a2.wr W29
  have O_ := O_.wr W29 g_bn28
  have E_bn28 := E_bn28.wr W29
  have Z29 : n0 ≤ h29.size := by rw [W29.size]; exact Z28
  have N29 := Fr.snoc X29 N28 g_bn28
  have K29 := K28k.wr W29 (Or.inr sz_bn28)
  have V_bn28 : Bal Z h29 bn28 .byte [(nar .byte (((192 : Int32) ||| (((nar .byte (c0.toInt8.toInt32)) &&& (255 : Int32)) >>> ((6 : Int32) &&& 31))).toInt8.toInt32)), (0 : Int32), (0 : Int32), (0 : Int32)] := V29
  refine Y.aload X29 hx (hb hby d14_89) rfl rfl ?_
  refine Y.iloadN X29 hx (hb hby d14_91) rfl ?_
  refine Y.iinc X29 hx (hb hby d14_92) rfl (l' := #[.val (.int (0 : Int32)), .val (.ref a2), .val (.int (1 : Int32)), .val (.int (2 : Int32)), .val (.ref bn28), .val (.ref a2), .val (.int (2 : Int32)), .val (.int (0 : Int32)), .val (.int (nar .byte (c0.toInt8.toInt32)))]) rfl ?_
  refine Y.sipush X29 hx (hb hby d14_95) ?_
  refine Y.iload X29 hx (hb hby d14_98) rfl ?_
  refine Y.bipush X29 hx (hb hby d14_100) ?_
  refine Y.iand X29 hx (hb hby d14_102) rfl ?_
  refine Y.ior X29 hx (hb hby d14_103) rfl ?_
  refine Y.i2b X29 hx (hb hby d14_104) rfl ?_
  obtain ⟨T30, h30, X30, e30, W30, V30, st30⟩ := own_stB X29 hx hZ e29 V_bn28 (j := (1 : Int32)) (i := 1) (by decide) (by decide) (Nat.lt_of_lt_of_eq (by decide : 1 < 4) rfl) (g := (mkF m 105 #[.val (.int (0 : Int32)), .val (.ref a2), .val (.int (1 : Int32)), .val (.int (2 : Int32)), .val (.ref bn28), .val (.ref a2), .val (.int (2 : Int32)), .val (.int (0 : Int32)), .val (.int (nar .byte (c0.toInt8.toInt32)))] [(.int (((128 : Int32) ||| ((nar .byte (c0.toInt8.toInt32)) &&& (63 : Int32))).toInt8.toInt32)), (.int (1 : Int32)), (.ref bn28)])) rfl rfl (hb hby d14_105)
  refine Gl.pre (fun _ k => st30 _ k) ?_
  have V_a2 := V_a2.other W30 (own_ne_a2_bn28)
  have E_a2 := E_a2.wr W30
  have O_ := O_.wr W30 g_bn28
  have E_bn28 := E_bn28.wr W30
  have Z30 : n0 ≤ h30.size := by rw [W30.size]; exact Z29
  have N30 := Fr.snoc X30 N29 g_bn28
  have K30 := K29.wr W30 (Or.inr sz_bn28)
  have V_bn28 : Bal Z h30 bn28 .byte [(nar .byte (((192 : Int32) ||| (((nar .byte (c0.toInt8.toInt32)) &&& (255 : Int32)) >>> ((6 : Int32) &&& 31))).toInt8.toInt32)), (nar .byte (((128 : Int32) ||| ((nar .byte (c0.toInt8.toInt32)) &&& (63 : Int32))).toInt8.toInt32)), (0 : Int32), (0 : Int32)] := V30
  refine Y.goto X30 hx (pc0 := 106) (pc' := 118) rfl (hb hby d14_106) (by decide) (by decide) ?_
  refine Y.iinc X30 hx (hb hby d14_118) rfl (l' := #[.val (.int (0 : Int32)), .val (.ref a2), .val (.int (1 : Int32)), .val (.int (2 : Int32)), .val (.ref bn28), .val (.ref a2), .val (.int (2 : Int32)), .val (.int (1 : Int32)), .val (.int (nar .byte (c0.toInt8.toInt32)))]) rfl ?_
  refine Y.goto X30 hx (pc0 := 121) (pc' := 49) rfl (hb hby d14_121) (by decide) (by decide) ?_
  refine Y.iload X30 hx (hb hby d14_49) rfl ?_
  refine Y.iload X30 hx (hb hby d14_51) rfl ?_
  refine Y.icmpNo X30 hx (hb hby d14_53) rfl (tlt (show (1 : Int32) < (2 : Int32) from (by decide))).2.1 ?_
  refine Y.aload X30 hx (hb hby d14_56) rfl rfl ?_
  refine Y.iload X30 hx (hb hby d14_58) rfl ?_
  refine Gl.pre (fun _ k => own_ldB X30 hx hZ e30 V_a2 (j := (1 : Int32)) (i := 1) (by decide) (by decide) (Nat.lt_of_lt_of_eq (by decide : 1 < 2) rfl) (v := (nar .byte (c1.toInt8.toInt32))) rfl (g := (mkF m 60 #[.val (.int (0 : Int32)), .val (.ref a2), .val (.int (1 : Int32)), .val (.int (2 : Int32)), .val (.ref bn28), .val (.ref a2), .val (.int (2 : Int32)), .val (.int (1 : Int32)), .val (.int (nar .byte (c0.toInt8.toInt32)))] [(.int (1 : Int32)), (.ref a2)])) rfl rfl (hb hby d14_60) _ k) ?_
  refine Y.istore X30 hx (hb hby d14_61) rfl (l' := #[.val (.int (0 : Int32)), .val (.ref a2), .val (.int (1 : Int32)), .val (.int (2 : Int32)), .val (.ref bn28), .val (.ref a2), .val (.int (2 : Int32)), .val (.int (1 : Int32)), .val (.int (nar .byte (c1.toInt8.toInt32)))]) rfl ?_
  refine Y.iload X30 hx (hb hby d14_63) rfl ?_
  refine Y.ifNo X30 hx (hb hby d14_65) rfl ((if0 _ _).trans (tlt (show (nar .byte (c1.toInt8.toInt32)) < (0 : Int32) from hs1)).2.1) ?_
  refine Y.aload X30 hx (hb hby d14_68) rfl rfl ?_
  refine Y.iloadN X30 hx (hb hby d14_70) rfl ?_
  refine Y.iinc X30 hx (hb hby d14_71) rfl (l' := #[.val (.int (0 : Int32)), .val (.ref a2), .val (.int (1 : Int32)), .val (.int (3 : Int32)), .val (.ref bn28), .val (.ref a2), .val (.int (2 : Int32)), .val (.int (1 : Int32)), .val (.int (nar .byte (c1.toInt8.toInt32)))]) rfl ?_
  refine Y.sipush X30 hx (hb hby d14_74) ?_
  refine Y.iload X30 hx (hb hby d14_77) rfl ?_
  refine Y.sipush X30 hx (hb hby d14_79) ?_
  refine Y.iand X30 hx (hb hby d14_82) rfl ?_
  refine Y.bipush X30 hx (hb hby d14_83) ?_
  refine Y.ishr X30 hx (hb hby d14_85) rfl ?_
  refine Y.ior X30 hx (hb hby d14_86) rfl ?_
  refine Y.i2b X30 hx (hb hby d14_87) rfl ?_
  obtain ⟨T31, h31, X31, e31, W31, V31, st31⟩ := own_stB X30 hx hZ e30 V_bn28 (j := (2 : Int32)) (i := 2) (by decide) (by decide) (Nat.lt_of_lt_of_eq (by decide : 2 < 4) rfl) (g := (mkF m 88 #[.val (.int (0 : Int32)), .val (.ref a2), .val (.int (1 : Int32)), .val (.int (3 : Int32)), .val (.ref bn28), .val (.ref a2), .val (.int (2 : Int32)), .val (.int (1 : Int32)), .val (.int (nar .byte (c1.toInt8.toInt32)))] [(.int (((192 : Int32) ||| (((nar .byte (c1.toInt8.toInt32)) &&& (255 : Int32)) >>> ((6 : Int32) &&& 31))).toInt8.toInt32)), (.int (2 : Int32)), (.ref bn28)])) rfl rfl (hb hby d14_88)
  refine Gl.pre (fun _ k => st31 _ k) ?_
  have V_a2 := V_a2.other W31 (own_ne_a2_bn28)
  have E_a2 := E_a2.wr W31
  have O_ := O_.wr W31 g_bn28
  have E_bn28 := E_bn28.wr W31
  have Z31 : n0 ≤ h31.size := by rw [W31.size]; exact Z30
  have N31 := Fr.snoc X31 N30 g_bn28
  have K31 := K30.wr W31 (Or.inr sz_bn28)
  have V_bn28 : Bal Z h31 bn28 .byte [(nar .byte (((192 : Int32) ||| (((nar .byte (c0.toInt8.toInt32)) &&& (255 : Int32)) >>> ((6 : Int32) &&& 31))).toInt8.toInt32)), (nar .byte (((128 : Int32) ||| ((nar .byte (c0.toInt8.toInt32)) &&& (63 : Int32))).toInt8.toInt32)), (nar .byte (((192 : Int32) ||| (((nar .byte (c1.toInt8.toInt32)) &&& (255 : Int32)) >>> ((6 : Int32) &&& 31))).toInt8.toInt32)), (0 : Int32)] := V31
  refine Y.aload X31 hx (hb hby d14_89) rfl rfl ?_
  refine Y.iloadN X31 hx (hb hby d14_91) rfl ?_
  refine Y.iinc X31 hx (hb hby d14_92) rfl (l' := #[.val (.int (0 : Int32)), .val (.ref a2), .val (.int (1 : Int32)), .val (.int (4 : Int32)), .val (.ref bn28), .val (.ref a2), .val (.int (2 : Int32)), .val (.int (1 : Int32)), .val (.int (nar .byte (c1.toInt8.toInt32)))]) rfl ?_
  refine Y.sipush X31 hx (hb hby d14_95) ?_
  refine Y.iload X31 hx (hb hby d14_98) rfl ?_
  refine Y.bipush X31 hx (hb hby d14_100) ?_
  refine Y.iand X31 hx (hb hby d14_102) rfl ?_
  refine Y.ior X31 hx (hb hby d14_103) rfl ?_
  refine Y.i2b X31 hx (hb hby d14_104) rfl ?_
  obtain ⟨T32, h32, X32, e32, W32, V32, st32⟩ := own_stB X31 hx hZ e31 V_bn28 (j := (3 : Int32)) (i := 3) (by decide) (by decide) (Nat.lt_of_lt_of_eq (by decide : 3 < 4) rfl) (g := (mkF m 105 #[.val (.int (0 : Int32)), .val (.ref a2), .val (.int (1 : Int32)), .val (.int (4 : Int32)), .val (.ref bn28), .val (.ref a2), .val (.int (2 : Int32)), .val (.int (1 : Int32)), .val (.int (nar .byte (c1.toInt8.toInt32)))] [(.int (((128 : Int32) ||| ((nar .byte (c1.toInt8.toInt32)) &&& (63 : Int32))).toInt8.toInt32)), (.int (3 : Int32)), (.ref bn28)])) rfl rfl (hb hby d14_105)
  refine Gl.pre (fun _ k => st32 _ k) ?_
  have V_a2 := V_a2.other W32 (own_ne_a2_bn28)
  have E_a2 := E_a2.wr W32
  have O_ := O_.wr W32 g_bn28
  have E_bn28 := E_bn28.wr W32
  have Z32 : n0 ≤ h32.size := by rw [W32.size]; exact Z31
  have N32 := Fr.snoc X32 N31 g_bn28
  have K32 := K31.wr W32 (Or.inr sz_bn28)
  have V_bn28 : Bal Z h32 bn28 .byte [(nar .byte (((192 : Int32) ||| (((nar .byte (c0.toInt8.toInt32)) &&& (255 : Int32)) >>> ((6 : Int32) &&& 31))).toInt8.toInt32)), (nar .byte (((128 : Int32) ||| ((nar .byte (c0.toInt8.toInt32)) &&& (63 : Int32))).toInt8.toInt32)), (nar .byte (((192 : Int32) ||| (((nar .byte (c1.toInt8.toInt32)) &&& (255 : Int32)) >>> ((6 : Int32) &&& 31))).toInt8.toInt32)), (nar .byte (((128 : Int32) ||| ((nar .byte (c1.toInt8.toInt32)) &&& (63 : Int32))).toInt8.toInt32))] := V32
  refine Y.goto X32 hx (pc0 := 106) (pc' := 118) rfl (hb hby d14_106) (by decide) (by decide) ?_
  refine Y.iinc X32 hx (hb hby d14_118) rfl (l' := #[.val (.int (0 : Int32)), .val (.ref a2), .val (.int (1 : Int32)), .val (.int (4 : Int32)), .val (.ref bn28), .val (.ref a2), .val (.int (2 : Int32)), .val (.int (2 : Int32)), .val (.int (nar .byte (c1.toInt8.toInt32)))]) rfl ?_
  refine Y.goto X32 hx (pc0 := 121) (pc' := 49) rfl (hb hby d14_121) (by decide) (by decide) ?_
  refine Y.iload X32 hx (hb hby d14_49) rfl ?_
  refine Y.iload X32 hx (hb hby d14_51) rfl ?_
  refine Y.icmpYes X32 hx (pc0 := 53) (pc' := 124) rfl (hb hby d14_53) rfl (flt (show ¬ ((2 : Int32) < (2 : Int32)) from (by decide))).2.1 (by decide) (by decide) ?_
  refine Y.iloadN X32 hx (hb hby d14_124) rfl ?_
  refine Y.aload X32 hx (hb hby d14_125) rfl rfl ?_
  refine Gl.pre (fun _ k => own_len X32 hx hZ e32 V_bn28 (v := (4 : Int32)) rfl (g := (mkF m 127 #[.val (.int (0 : Int32)), .val (.ref a2), .val (.int (1 : Int32)), .val (.int (4 : Int32)), .val (.ref bn28), .val (.ref a2), .val (.int (2 : Int32)), .val (.int (2 : Int32)), .val (.int (nar .byte (c1.toInt8.toInt32)))] [(.ref bn28), (.int (4 : Int32))])) rfl rfl (hb hby d14_127) _ k) ?_
  refine Y.icmpNo X32 hx (hb hby d14_128) rfl (teq (show (4 : Int32) = (4 : Int32) from (by decide))).2 ?_
  refine Y.aload X32 hx (hb hby d14_131) rfl rfl ?_
  rw [hPP]
  refine own_finA (Q := (Qeu Z co a2 xs ys h0 n0)) X32 hx hlk Bd.returns rfl rfl (hb hby d14_133) ?_ (by decide) (by decide)
  show Qeu Z co a2 xs ys h0 n0 _ T32.heap _
  rw [e32]
  refine ⟨bn28, rfl, N32, sz_bn28, K32, ?_⟩
  rw [hxe]
  rw [own_ue2, own_u1b hd0 (own_2048 hc0), own_u1b hd1 (own_2048 hc1)]; simp only [List.cons_append, List.nil_append]
  rw [own_y255 hr0.1 hc0, own_y63 c0, own_y255 hr1.1 hc1, own_y63 c1] at V_bn28
  exact V_bn28
  rw [hce]
  rw [hye] at V_a2
  have hn0 : c0 < (55296 : Int32) ∨ ¬ (c0 < (57344 : Int32)) := hsd c0 (by rw [hxe]; simp)
  have hn1 : c1 < (55296 : Int32) ∨ ¬ (c1 < (57344 : Int32)) := hsd c1 (by rw [hxe]; simp)
  show Gl p.tables e below PP (s₁.setTop (mkF m 0 #[.val (.int (1 : Int32)), .val (.ref a2), .val (.int (1 : Int32)), .unset, .unset, .unset, .unset, .unset, .unset] []))
  refine Y.iloadN X0 hx (hb hby d14_0) rfl ?_
  refine Y.iconst X0 hx (hb hby d14_1) ?_
  refine Y.icmpNo X0 hx (hb hby d14_2) rfl (teq (show (1 : Int32) = (1 : Int32) from (by decide))).2 ?_
  refine Y.aloadN X0 hx (hb hby d14_5) rfl rfl ?_
  refine Y.iloadN X0 hx (hb hby d14_6) rfl ?_
  obtain ⟨_, _, ⟨T33, L33, k33, n33⟩, -, X33, ⟨Lc33, hQ33, l33, y33, z33⟩, st33⟩ := Jvm.LawKit.callS X0 hx (y := (⟨"java/lang/String", "encodeUTF8_UTF16", "([BZ)[B"⟩ : MethodName)) hown (mvT hZ (W 118 rfl)) (mvT hZ (W 119 rfl)) (mvT hZ (W 8 rfl)) (mvT hZ (W 120 rfl)) (by decide) (backOf (W := 0) (rmue2 l Z a0 hw [] a2 c0 c1 h0 n0 Z0 V_a2 hr0 hr1 hn0 hn1 SAD SHI SLO O_) hZ (W 120 rfl) (W 8 rfl) (by decide) (by decide)) (g := (mkF m 7 #[.val (.int (1 : Int32)), .val (.ref a2), .val (.int (1 : Int32)), .unset, .unset, .unset, .unset, .unset, .unset] [(.int (1 : Int32)), (.ref a2)])) rfl (by rw [hml]; rfl) (argsL := [(.ref a2), (.int (1 : Int32))]) (rest := []) (lenOf pd_13 rfl) rfl (by show 2 * 0 + _ ≤ _; exact Nat.le_of_eq rfl) (hb hby d14_7) (fun _ _ => ⟨rfl, e0, (by decide : 0 + 2 ≤ _), (by decide : 0 + 11 ≤ _)⟩)
  dsimp only [Pt.U, Pt.locs, Pt.cells, Pt.slots] at X33 l33 y33 z33 st33 hQ33
  subst l33 y33 z33
  obtain ⟨bu33, rfl, N33q, hz33, K33, V33q⟩ := hQ33
  have N33 := Fr.app N0 N33q
  refine Gl.pre (fun _ k => st33 _ k) ?_
  have own_ne_a2_bu33 : a2 ≠ bu33 := Nat.ne_of_lt (Nat.lt_of_lt_of_le V_a2.lt hz33)
  have own_ne_bu33_a2 := own_ne_a2_bu33.symm
  have g_bu33 : n0 ≤ bu33 := Nat.le_trans Z0 hz33
  have sz_bu33 : h0.size ≤ bu33 := Nat.le_trans K0.1 hz33
  have V_a2 := V_a2.keep K33 nin0
  have E_a2 := E_a2.keep K33
  have O_ := O_.keep K33 all0
  have Z33 : n0 ≤ T33.heap.size := Nat.le_trans Z0 K33.1
  have K33k := K0.trans K33 all0
  have V_bu33 := V33q
  rw [hPP]
  refine own_finA (Q := (Qeu Z co a2 xs ys h0 n0)) X33 hx hlk Bd.returns rfl rfl (hb hby d14_10) ?_ (by decide) (by decide)
  show Qeu Z co a2 xs ys h0 n0 _ T33.heap _
  refine ⟨bu33, rfl, N33, sz_bu33, K33k, ?_⟩
  rw [hxe]
  exact V_bu33
theorem d13_0 : decode jdk_42_method_18_code 0 = .ok (.aload_n 0, 1) := by decide +kernel
theorem d13_1 : decode jdk_42_method_18_code 1 = .ok (.getstatic 86, 3) := by decide +kernel
theorem d13_4 : decode jdk_42_method_18_code 4 = .ok (.if_acmp .ne 10, 3) := by decide +kernel
theorem d13_7 : decode jdk_42_method_18_code 7 = .ok (.iload_n 1, 1) := by decide +kernel
theorem d13_8 : decode jdk_42_method_18_code 8 = .ok (.aload_n 2, 1) := by decide +kernel
theorem d13_9 : decode jdk_42_method_18_code 9 = .ok (.iconst 1, 1) := by decide +kernel
theorem d13_10 : decode jdk_42_method_18_code 10 = .ok (.invokestatic 252, 3) := by decide +kernel
theorem d13_13 : decode jdk_42_method_18_code 13 = .ok (.areturn, 1) := by decide +kernel
theorem pn_13 : plainName "java/lang/String" = true := by first | (simp [plainName, overriddenIn]; done) | decide +kernel
theorem ef_en (m : MethodId) (ut : Addr) (co : Int32) (a2 : Addr) (xs : List Int32) (ys : List Int32) : entryFrame m #[(.ref ut), (.int co), (.ref a2)] 3 = mkF m 0 #[.val (.ref ut), .val (.int co), .val (.ref a2)] [] := by first | (simp [entryFrame, mkF, argsToLocals, Value.category]; done) | rfl
def Qen (Z : State) (ut : Addr) (co : Int32) (a2 : Addr) (xs : List Int32) (ys : List Int32) (h0 : Heap) (n0 : Nat) (v : Option Value) (h : Heap) (L : List Loc) : Prop := ∃ b : Addr, v = some (.ref b) ∧ Fr n0 L ∧ h0.size ≤ b ∧ Keep h0 h [] ∧ Bal Z h b .byte (own_u xs)
set_option maxRecDepth 65536 in
set_option maxHeartbeats 40000000 in
theorem rmen (l : Launch) (Z : State) (a0 : Array Value) (hw : ∀ d ∈ tables_1, d.before a0 Z = true) (ws : List Jvm.Cond) (ut : Addr) (co : Int32) (a2 : Addr) (xs : List Int32) (ys : List Int32) (h0 : Heap) (n0 : Nat) (Z0 : n0 ≤ h0.size) (V_a2 : Bal Z h0 a2 .byte ys) (E_a2 : Exa Z h0 a2 "[B") (hrep : own_rep xs co ys) (hsd : ∀ c ∈ xs, c < (55296 : Int32) ∨ ¬ (c < (57344 : Int32))) (SIN : Sta Z Z.heap "sun/nio/cs/UTF_8" "INSTANCE" "Lsun/nio/cs/UTF_8;" (.ref ut)) (SAD : Sta Z Z.heap "java/lang/StringUTF16" "$assertionsDisabled" "Z" (.int (1 : Int32))) (SHI : Sta Z Z.heap "java/lang/StringUTF16" "HI_BYTE_SHIFT" "I" (.int (0 : Int32))) (SLO : Sta Z Z.heap "java/lang/StringUTF16" "LO_BYTE_SHIFT" "I" (.int (8 : Int32))) (O_ : Old Z n0 h0) :
    MetFree l (⟨"java/lang/String", "encode", "(Ljava/nio/charset/Charset;B[B)[B"⟩ : MethodName) (head1 (Jvm.Cond.code (⟨"java/lang/String", "encode", "(Ljava/nio/charset/Charset;B[B)[B"⟩ : MethodName) jdk_42_method_18_code 3 (some (.array .byte)) :: ws) ({ frames := 4, cells := 2, slots := 11, locals := 72 } : Room)) (fun a U => a = #[(.ref ut), (.int co), (.ref a2)] ∧ Z.Warmed39 U.vm ∧ U.heap = h0) (fun _ _ _ _ _ => True) (fun _ U o U' => ∃ v L, o = .returned v ∧ Qen Z ut co a2 xs ys h0 n0 v U'.heap L ∧ FrameEnd U o U' L ({ frames := 4, cells := 2, slots := 11, locals := 72 } : Room).cells ({ frames := 4, cells := 2, slots := 11, locals := 72 } : Room).slots) := by
  have W := @own_wd Z a0 hw
  refine MetFree.of_bodySF (plainFor_of_name pn_13) hisR ?_
  intro p e s m args below meth c s₁ Bd hml0 hP hK
  obtain ⟨rfl, hZ, hh⟩ := hP
  have hx := Bd.exec
  have hby := Bd.bytes
  have hlk : meth.locks = false := BodyLoose.notSynchronized Bd
  have hml : c.maxLocals = 3 := hml0
  have hown : s.vm.findClass "java/lang/String" = some m.cls := findClass_of_methodNamed Bd.named
  have hnm := (name_of_methodNamed Bd.named Bd.method).1
  have X0 : Stand p l e ({ frames := 4, cells := 2, slots := 11, locals := 72 } : Room) s m #[(.ref ut), (.int co), (.ref a2)] below meth c s₁ [] 0 0 := Stand.of_body Bd
  have e0 : s₁.heap = h0 := by rw [← hh, Bd.state]; rfl
  have N0 := Fr.nil n0
  show Gl p.tables e below _ _
  refine Gl.pre (fun t k => castTop (ef_en m ut co a2 xs ys) k) ?_
  refine Gl.gen (fun PP hPP => ?_)
  have K0 : Keep h0 h0 [] := Keep.refl h0 _
  show Gl p.tables e below PP (s₁.setTop (mkF m 0 #[.val (.ref ut), .val (.int co), .val (.ref a2)] []))
  refine Y.aloadN X0 hx (hb hby d13_0) rfl rfl ?_
  obtain ⟨T1, X1, e1, st1⟩ := getS2 X0 hx hZ hown (host := "") (Or.inl (W 64 rfl)) Via.refl e0 (SIN.ext O_.2) (g := (mkF m 1 #[.val (.ref ut), .val (.int co), .val (.ref a2)] [(.ref ut)])) rfl (hb hby d13_1)
  refine Gl.pre (fun _ k => st1 _ k) ?_
  refine Gl.pre (fun _ k => Jvm.RoadKit.acmp (g := (mkF m 4 #[.val (.ref ut), .val (.int co), .val (.ref a2)] [(.ref ut), (.ref ut)])) X1 hx rfl rfl rfl (pc0 := 4) (pc' := 7) (same := true) rfl (hb hby d13_4) rfl (decide_eq_true rfl) (by decide) (by decide) k) ?_
  refine Y.iloadN X1 hx (hb hby d13_7) rfl ?_
  refine Y.aloadN X1 hx (hb hby d13_8) rfl rfl ?_
  refine Y.iconst X1 hx (hb hby d13_9) ?_
  obtain ⟨_, _, ⟨T2, L2, k2, n2⟩, -, X2, ⟨Lc2, hQ2, l2, y2, z2⟩, st2⟩ := Jvm.LawKit.callS X1 hx (y := (⟨"java/lang/String", "encodeUTF8", "(B[BZ)[B"⟩ : MethodName)) hown (mvT hZ (W 66 rfl)) (mvT hZ (W 67 rfl)) (mvT hZ (W 8 rfl)) (mvT hZ (W 68 rfl)) (by decide) (backOf (W := 0) (rmeu l Z a0 hw [] co a2 xs ys h0 n0 Z0 V_a2 E_a2 hrep hsd SAD SHI SLO O_) hZ (W 68 rfl) (W 8 rfl) (by decide) (by decide)) (g := (mkF m 10 #[.val (.ref ut), .val (.int co), .val (.ref a2)] [(.int (1 : Int32)), (.ref a2), (.int co)])) rfl (by rw [hml]; rfl) (argsL := [(.int co), (.ref a2), (.int (1 : Int32))]) (rest := []) (lenOf pd_14 rfl) rfl (by show 2 * 0 + _ ≤ _; exact Nat.le_of_eq rfl) (hb hby d13_10) (fun _ _ => ⟨rfl, e1, (by decide : 0 + 2 ≤ _), (by decide : 0 + 11 ≤ _)⟩)
  dsimp only [Pt.U, Pt.locs, Pt.cells, Pt.slots] at X2 l2 y2 z2 st2 hQ2
  subst l2 y2 z2
  obtain ⟨bv2, rfl, N2q, hz2, K2, V2q⟩ := hQ2
  have N2 := Fr.app N0 N2q
  refine Gl.pre (fun _ k => st2 _ k) ?_
  have own_ne_a2_bv2 : a2 ≠ bv2 := Nat.ne_of_lt (Nat.lt_of_lt_of_le V_a2.lt hz2)
  have own_ne_bv2_a2 := own_ne_a2_bv2.symm
  have g_bv2 : n0 ≤ bv2 := Nat.le_trans Z0 hz2
  have sz_bv2 : h0.size ≤ bv2 := Nat.le_trans K0.1 hz2
  have V_a2 := V_a2.keep K2 nin0
  have E_a2 := E_a2.keep K2
  have O_ := O_.keep K2 all0
  have Z2 : n0 ≤ T2.heap.size := Nat.le_trans Z0 K2.1
  have K2k := K0.trans K2 all0
  have V_bv2 := V2q
  rw [hPP]
  refine own_finA (Q := (Qen Z ut co a2 xs ys h0 n0)) X2 hx hlk Bd.returns rfl rfl (hb hby d13_13) ?_ (by decide) (by decide)
  show Qen Z ut co a2 xs ys h0 n0 _ T2.heap _
  exact ⟨bv2, rfl, N2, sz_bv2, K2k, V_bv2⟩
theorem d11_0 : decode jdk_42_method_64_code 0 = .ok (.aload_n 1, 1) := by decide +kernel
theorem d11_1 : decode jdk_42_method_64_code 1 = .ok (.ifnonnull 11, 3) := by decide +kernel
theorem d11_12 : decode jdk_42_method_64_code 12 = .ok (.aload_n 1, 1) := by decide +kernel
theorem d11_13 : decode jdk_42_method_64_code 13 = .ok (.aload_n 0, 1) := by decide +kernel
theorem d11_14 : decode jdk_42_method_64_code 14 = .ok (.invokevirtual 335, 3) := by decide +kernel
theorem d11_17 : decode jdk_42_method_64_code 17 = .ok (.aload_n 0, 1) := by decide +kernel
theorem d11_18 : decode jdk_42_method_64_code 18 = .ok (.getfield 9, 3) := by decide +kernel
theorem d11_21 : decode jdk_42_method_64_code 21 = .ok (.invokestatic 535, 3) := by decide +kernel
theorem d11_24 : decode jdk_42_method_64_code 24 = .ok (.areturn, 1) := by decide +kernel
theorem pn_11 : plainName "java/lang/String" = true := by first | (simp [plainName, overriddenIn]; done) | decide +kernel
theorem ef_gb (m : MethodId) (a1 : Addr) (ut : Addr) (co : Int32) (a2 : Addr) (xs : List Int32) (ys : List Int32) (cs : Int32) : entryFrame m #[(.ref a1), (.ref ut)] 2 = mkF m 0 #[.val (.ref a1), .val (.ref ut)] [] := by first | (simp [entryFrame, mkF, argsToLocals, Value.category]; done) | rfl
def Qgb (Z : State) (a1 : Addr) (ut : Addr) (co : Int32) (a2 : Addr) (xs : List Int32) (ys : List Int32) (cs : Int32) (h0 : Heap) (n0 : Nat) (v : Option Value) (h : Heap) (L : List Loc) : Prop := ∃ b : Addr, v = some (.ref b) ∧ Fr n0 L ∧ h0.size ≤ b ∧ Keep h0 h [] ∧ Bal Z h b .byte (own_u xs)
set_option maxRecDepth 65536 in
set_option maxHeartbeats 40000000 in
theorem rmgb (l : Launch) (Z : State) (a0 : Array Value) (hw : ∀ d ∈ tables_1, d.before a0 Z = true) (ws : List Jvm.Cond) (a1 : Addr) (ut : Addr) (co : Int32) (a2 : Addr) (xs : List Int32) (ys : List Int32) (cs : Int32) (h0 : Heap) (n0 : Nat) (Z0 : n0 ≤ h0.size) (E_a1 : Exa Z h0 a1 "java/lang/String") (F_value_a1 : Fld Z h0 a1 "java/lang/String" "value" "[B" (.ref a2)) (F_coder_a1 : Fld Z h0 a1 "java/lang/String" "coder" "B" (.int co)) (V_a2 : Bal Z h0 a2 .byte ys) (E_a2 : Exa Z h0 a2 "[B") (hrep : own_rep xs co ys) (hsd : ∀ c ∈ xs, c < (55296 : Int32) ∨ ¬ (c < (57344 : Int32))) (SIN : Sta Z Z.heap "sun/nio/cs/UTF_8" "INSTANCE" "Lsun/nio/cs/UTF_8;" (.ref ut)) (SBC : Sta Z Z.heap "java/lang/String" "COMPACT_STRINGS" "Z" (.int cs)) (hcs : ¬ (cs = (0 : Int32))) (SAD : Sta Z Z.heap "java/lang/StringUTF16" "$assertionsDisabled" "Z" (.int (1 : Int32))) (SHI : Sta Z Z.heap "java/lang/StringUTF16" "HI_BYTE_SHIFT" "I" (.int (0 : Int32))) (SLO : Sta Z Z.heap "java/lang/StringUTF16" "LO_BYTE_SHIFT" "I" (.int (8 : Int32))) (O_ : Old Z n0 h0) :
    MetFree l (⟨"java/lang/String", "getBytes", "(Ljava/nio/charset/Charset;)[B"⟩ : MethodName) (head1 (Jvm.Cond.code (⟨"java/lang/String", "getBytes", "(Ljava/nio/charset/Charset;)[B"⟩ : MethodName) jdk_42_method_64_code 2 (some (.array .byte)) :: ws) ({ frames := 5, cells := 2, slots := 11, locals := 86 } : Room)) (fun a U => a = #[(.ref a1), (.ref ut)] ∧ Z.Warmed39 U.vm ∧ U.heap = h0) (fun _ _ _ _ _ => True) (fun _ U o U' => ∃ v L, o = .returned v ∧ Qgb Z a1 ut co a2 xs ys cs h0 n0 v U'.heap L ∧ FrameEnd U o U' L ({ frames := 5, cells := 2, slots := 11, locals := 86 } : Room).cells ({ frames := 5, cells := 2, slots := 11, locals := 86 } : Room).slots) := by
  have W := @own_wd Z a0 hw
  refine MetFree.of_bodySF (plainFor_of_name pn_11) hisR ?_
  intro p e s m args below meth c s₁ Bd hml0 hP hK
  obtain ⟨rfl, hZ, hh⟩ := hP
  have hx := Bd.exec
  have hby := Bd.bytes
  have hlk : meth.locks = false := BodyLoose.notSynchronized Bd
  have hml : c.maxLocals = 2 := hml0
  have hown : s.vm.findClass "java/lang/String" = some m.cls := findClass_of_methodNamed Bd.named
  have hnm := (name_of_methodNamed Bd.named Bd.method).1
  have X0 : Stand p l e ({ frames := 5, cells := 2, slots := 11, locals := 86 } : Room) s m #[(.ref a1), (.ref ut)] below meth c s₁ [] 0 0 := Stand.of_body Bd
  have e0 : s₁.heap = h0 := by rw [← hh, Bd.state]; rfl
  have N0 := Fr.nil n0
  show Gl p.tables e below _ _
  refine Gl.pre (fun t k => castTop (ef_gb m a1 ut co a2 xs ys cs) k) ?_
  refine Gl.gen (fun PP hPP => ?_)
  have K0 : Keep h0 h0 [] := Keep.refl h0 _
  show Gl p.tables e below PP (s₁.setTop (mkF m 0 #[.val (.ref a1), .val (.ref ut)] []))
  refine Y.aloadN X0 hx (hb hby d11_0) rfl rfl ?_
  refine Y.ifnonnullYes X0 hx (pc0 := 1) (pc' := 12) rfl (hb hby d11_1) rfl (by decide) (by decide) ?_
  refine Y.aloadN X0 hx (hb hby d11_12) rfl rfl ?_
  refine Y.aloadN X0 hx (hb hby d11_13) rfl rfl ?_
  obtain ⟨cq1, kq1, qa1, qb1, qc1⟩ := isOf hZ e0 E_a1
  obtain ⟨_, _, ⟨T1, L1, k1, n1⟩, -, X1, ⟨Lc1, hQ1, l1, y1, z1⟩, st1⟩ := X0.virtualBack hx (y := (⟨"java/lang/String", "coder", "()B"⟩ : MethodName)) (z := (⟨"java/lang/String", "coder", "()B"⟩ : MethodName)) hown (mvT hZ (W 56 rfl)) (mvT hZ (W 57 rfl)) (notFace_of_selects (args := #[]) (mvT hZ (W 59 rfl))) (mvT hZ (W 59 rfl)) (mvT hZ (W 58 rfl)) (by decide) (backOf (W := 1) (rm12 l Z a0 hw [] a1 cs co h0 n0 Z0 F_coder_a1 (own_repc hrep) SBC hcs O_) hZ (W 60 rfl) (W 8 rfl) (by decide) (by decide)) qa1 qc1 (g := (mkF m 14 #[.val (.ref a1), .val (.ref ut)] [(.ref a1), (.ref ut)])) rfl (by rw [hml]; rfl) (Steps.refl _) (argsL := []) (rest := [(.ref ut)]) (lenOf pd_15 rfl) rfl (by show 2 * 0 + _ ≤ _; exact Nat.le_of_eq rfl) (hb hby d11_14) (fun _ _ => ⟨rfl, e0, (by decide : 0 + 0 ≤ _), (by decide : 0 + 0 ≤ _)⟩)
  dsimp only [Pt.U, Pt.locs, Pt.cells, Pt.slots] at X1 l1 y1 z1 st1 hQ1
  subst l1 y1 z1
  obtain ⟨rfl, N1q, e1⟩ := hQ1
  have N1 := Fr.app N0 N1q
  refine Gl.pre (fun _ k => st1.trans k) ?_
  refine Y.aloadN X1 hx (hb hby d11_17) rfl rfl ?_
  obtain ⟨T2, X2, e2, st2⟩ := getF X1 hx hZ hown (host := "") (Or.inl (W 37 rfl)) Via.refl e1 F_value_a1 (g := (mkF m 18 #[.val (.ref a1), .val (.ref ut)] [(.ref a1), (.int co), (.ref ut)])) rfl rfl (hb hby d11_18)
  refine Gl.pre (fun _ k => st2 _ k) ?_
  obtain ⟨_, _, ⟨T3, L3, k3, n3⟩, -, X3, ⟨Lc3, hQ3, l3, y3, z3⟩, st3⟩ := Jvm.LawKit.callS X2 hx (y := (⟨"java/lang/String", "encode", "(Ljava/nio/charset/Charset;B[B)[B"⟩ : MethodName)) hown (mvT hZ (W 61 rfl)) (mvT hZ (W 62 rfl)) (mvT hZ (W 8 rfl)) (mvT hZ (W 63 rfl)) (by decide) (backOf (W := 0) (rmen l Z a0 hw [] ut co a2 xs ys h0 n0 Z0 V_a2 E_a2 hrep hsd SIN SAD SHI SLO O_) hZ (W 63 rfl) (W 8 rfl) (by decide) (by decide)) (g := (mkF m 21 #[.val (.ref a1), .val (.ref ut)] [(.ref a2), (.int co), (.ref ut)])) rfl (by rw [hml]; rfl) (argsL := [(.ref ut), (.int co), (.ref a2)]) (rest := []) (lenOf pd_16 rfl) rfl (by show 2 * 0 + _ ≤ _; exact Nat.le_of_eq rfl) (hb hby d11_21) (fun _ _ => ⟨rfl, e2, (by decide : 0 + 2 ≤ _), (by decide : 0 + 11 ≤ _)⟩)
  dsimp only [Pt.U, Pt.locs, Pt.cells, Pt.slots] at X3 l3 y3 z3 st3 hQ3
  subst l3 y3 z3
  obtain ⟨bw3, rfl, N3q, hz3, K3, V3q⟩ := hQ3
  have N3 := Fr.app N1 N3q
  refine Gl.pre (fun _ k => st3 _ k) ?_
  have own_ne_a1_bw3 : a1 ≠ bw3 := Nat.ne_of_lt (Nat.lt_of_lt_of_le E_a1.lt hz3)
  have own_ne_bw3_a1 := own_ne_a1_bw3.symm
  have own_ne_a2_bw3 : a2 ≠ bw3 := Nat.ne_of_lt (Nat.lt_of_lt_of_le V_a2.lt hz3)
  have own_ne_bw3_a2 := own_ne_a2_bw3.symm
  have g_bw3 : n0 ≤ bw3 := Nat.le_trans Z0 hz3
  have sz_bw3 : h0.size ≤ bw3 := Nat.le_trans K0.1 hz3
  have E_a1 := E_a1.keep K3
  have F_value_a1 := F_value_a1.keep K3 nin0
  have F_coder_a1 := F_coder_a1.keep K3 nin0
  have V_a2 := V_a2.keep K3 nin0
  have E_a2 := E_a2.keep K3
  have O_ := O_.keep K3 all0
  have Z3 : n0 ≤ T3.heap.size := Nat.le_trans Z0 K3.1
  have K3k := K0.trans K3 all0
  have V_bw3 := V3q
  rw [hPP]
  refine own_finA (Q := (Qgb Z a1 ut co a2 xs ys cs h0 n0)) X3 hx hlk Bd.returns rfl rfl (hb hby d11_24) ?_ (by decide) (by decide)
  show Qgb Z a1 ut co a2 xs ys cs h0 n0 _ T3.heap _
  exact ⟨bw3, rfl, N3, sz_bw3, K3k, V_bw3⟩
theorem d18_0 : decode prog_2_method_9_code 0 = .ok (.aload_n 0, 1) := by decide +kernel
theorem d18_1 : decode prog_2_method_9_code 1 = .ok (.getstatic 17, 3) := by decide +kernel
theorem d18_4 : decode prog_2_method_9_code 4 = .ok (.invokevirtual 23, 3) := by decide +kernel
theorem d18_7 : decode prog_2_method_9_code 7 = .ok (.astore_n 3, 1) := by decide +kernel
theorem d18_8 : decode prog_2_method_9_code 8 = .ok (.aload_n 3, 1) := by decide +kernel
theorem d18_9 : decode prog_2_method_9_code 9 = .ok (.arraylength, 1) := by decide +kernel
theorem d18_10 : decode prog_2_method_9_code 10 = .ok (.iconst 1, 1) := by decide +kernel
theorem d18_11 : decode prog_2_method_9_code 11 = .ok (.iadd, 1) := by decide +kernel
theorem d18_12 : decode prog_2_method_9_code 12 = .ok (.aload_n 2, 1) := by decide +kernel
theorem d18_13 : decode prog_2_method_9_code 13 = .ok (.arraylength, 1) := by decide +kernel
theorem d18_14 : decode prog_2_method_9_code 14 = .ok (.iadd, 1) := by decide +kernel
theorem d18_15 : decode prog_2_method_9_code 15 = .ok (.newarray .byte, 2) := by decide +kernel
theorem d18_17 : decode prog_2_method_9_code 17 = .ok (.astore 4, 2) := by decide +kernel
theorem d18_19 : decode prog_2_method_9_code 19 = .ok (.aload_n 3, 1) := by decide +kernel
theorem d18_20 : decode prog_2_method_9_code 20 = .ok (.iconst 0, 1) := by decide +kernel
theorem d18_21 : decode prog_2_method_9_code 21 = .ok (.aload 4, 2) := by decide +kernel
theorem d18_23 : decode prog_2_method_9_code 23 = .ok (.iconst 0, 1) := by decide +kernel
theorem d18_24 : decode prog_2_method_9_code 24 = .ok (.aload_n 3, 1) := by decide +kernel
theorem d18_25 : decode prog_2_method_9_code 25 = .ok (.arraylength, 1) := by decide +kernel
theorem d18_26 : decode prog_2_method_9_code 26 = .ok (.invokestatic 33, 3) := by decide +kernel
theorem d18_29 : decode prog_2_method_9_code 29 = .ok (.aload 4, 2) := by decide +kernel
theorem d18_31 : decode prog_2_method_9_code 31 = .ok (.aload_n 3, 1) := by decide +kernel
theorem d18_32 : decode prog_2_method_9_code 32 = .ok (.arraylength, 1) := by decide +kernel
theorem d18_33 : decode prog_2_method_9_code 33 = .ok (.iload_n 1, 1) := by decide +kernel
theorem d18_34 : decode prog_2_method_9_code 34 = .ok (.bastore, 1) := by decide +kernel
theorem d18_35 : decode prog_2_method_9_code 35 = .ok (.aload_n 2, 1) := by decide +kernel
theorem d18_36 : decode prog_2_method_9_code 36 = .ok (.iconst 0, 1) := by decide +kernel
theorem d18_37 : decode prog_2_method_9_code 37 = .ok (.aload 4, 2) := by decide +kernel
theorem d18_39 : decode prog_2_method_9_code 39 = .ok (.aload_n 3, 1) := by decide +kernel
theorem d18_40 : decode prog_2_method_9_code 40 = .ok (.arraylength, 1) := by decide +kernel
theorem d18_41 : decode prog_2_method_9_code 41 = .ok (.iconst 1, 1) := by decide +kernel
theorem d18_42 : decode prog_2_method_9_code 42 = .ok (.iadd, 1) := by decide +kernel
theorem d18_43 : decode prog_2_method_9_code 43 = .ok (.aload_n 2, 1) := by decide +kernel
theorem d18_44 : decode prog_2_method_9_code 44 = .ok (.arraylength, 1) := by decide +kernel
theorem d18_45 : decode prog_2_method_9_code 45 = .ok (.invokestatic 33, 3) := by decide +kernel
theorem d18_48 : decode prog_2_method_9_code 48 = .ok (.aload 4, 2) := by decide +kernel
theorem d18_50 : decode prog_2_method_9_code 50 = .ok (.areturn, 1) := by decide +kernel
theorem pn_18 : plainName "com/example/hermod/hermod/RecordKeys" = true := by first | (simp [plainName, overriddenIn]; done) | decide +kernel
theorem ef_ws (m : MethodId) (a1 : Addr) (sq : Int32) (a3 : Addr) (ss : List Int32) (ut : Addr) (co : Int32) (a2 : Addr) (xs : List Int32) (ys : List Int32) (cs : Int32) : entryFrame m #[(.ref a1), (.int sq), (.ref a3)] 5 = mkF m 0 #[.val (.ref a1), .val (.int sq), .val (.ref a3), .unset, .unset] [] := by first | (simp [entryFrame, mkF, argsToLocals, Value.category]; done) | rfl
def Qws (Z : State) (a1 : Addr) (sq : Int32) (a3 : Addr) (ss : List Int32) (ut : Addr) (co : Int32) (a2 : Addr) (xs : List Int32) (ys : List Int32) (cs : Int32) (h0 : Heap) (n0 : Nat) (v : Option Value) (h : Heap) (L : List Loc) : Prop := ∃ b : Addr, v = some (.ref b) ∧ Fr n0 L ∧ h0.size ≤ b ∧ Keep h0 h [] ∧ Bal Z h b .byte (own_u xs ++ (nar .byte sq) :: ss)
set_option maxRecDepth 65536 in
set_option maxHeartbeats 40000000 in
theorem rmws (l : Launch) (Z : State) (a0 : Array Value) (hw : ∀ d ∈ tables_1, d.before a0 Z = true) (ws : List Jvm.Cond) (a1 : Addr) (sq : Int32) (a3 : Addr) (ss : List Int32) (ut : Addr) (co : Int32) (a2 : Addr) (xs : List Int32) (ys : List Int32) (cs : Int32) (h0 : Heap) (n0 : Nat) (Z0 : n0 ≤ h0.size) (E_a1 : Exa Z h0 a1 "java/lang/String") (F_value_a1 : Fld Z h0 a1 "java/lang/String" "value" "[B" (.ref a2)) (F_coder_a1 : Fld Z h0 a1 "java/lang/String" "coder" "B" (.int co)) (V_a2 : Bal Z h0 a2 .byte ys) (E_a2 : Exa Z h0 a2 "[B") (hrep : own_rep xs co ys) (hsd : ∀ c ∈ xs, c < (55296 : Int32) ∨ ¬ (c < (57344 : Int32))) (V_a3 : Bal Z h0 a3 .byte ss) (hfs : own_fit ss) (hls : ss.length ≤ 6) (hsh : own_sh xs) (SUT : Sta Z Z.heap "java/nio/charset/StandardCharsets" "UTF_8" "Ljava/nio/charset/Charset;" (.ref ut)) (SIN : Sta Z Z.heap "sun/nio/cs/UTF_8" "INSTANCE" "Lsun/nio/cs/UTF_8;" (.ref ut)) (SBC : Sta Z Z.heap "java/lang/String" "COMPACT_STRINGS" "Z" (.int cs)) (hcs : ¬ (cs = (0 : Int32))) (SAD : Sta Z Z.heap "java/lang/StringUTF16" "$assertionsDisabled" "Z" (.int (1 : Int32))) (SHI : Sta Z Z.heap "java/lang/StringUTF16" "HI_BYTE_SHIFT" "I" (.int (0 : Int32))) (SLO : Sta Z Z.heap "java/lang/StringUTF16" "LO_BYTE_SHIFT" "I" (.int (8 : Int32))) (O_ : Old Z n0 h0) :
    MetFree l (⟨"com/example/hermod/hermod/RecordKeys", "withSeparator", "(Ljava/lang/String;B[B)[B"⟩ : MethodName) (head1 (Jvm.Cond.code (⟨"com/example/hermod/hermod/RecordKeys", "withSeparator", "(Ljava/lang/String;B[B)[B"⟩ : MethodName) prog_2_method_9_code 5 (some (.array .byte)) :: ws) ({ frames := 6, cells := 3, slots := 24, locals := 99 } : Room)) (fun a U => a = #[(.ref a1), (.int sq), (.ref a3)] ∧ Z.Warmed39 U.vm ∧ U.heap = h0) (fun _ _ _ _ _ => True) (fun _ U o U' => ∃ v L, o = .returned v ∧ Qws Z a1 sq a3 ss ut co a2 xs ys cs h0 n0 v U'.heap L ∧ FrameEnd U o U' L ({ frames := 6, cells := 3, slots := 24, locals := 99 } : Room).cells ({ frames := 6, cells := 3, slots := 24, locals := 99 } : Room).slots) := by
  have W := @own_wd Z a0 hw
  refine MetFree.of_bodySF (plainFor_of_name pn_18) hisR ?_
  intro p e s m args below meth c s₁ Bd hml0 hP hK
  obtain ⟨rfl, hZ, hh⟩ := hP
  have hx := Bd.exec
  have hby := Bd.bytes
  have hlk : meth.locks = false := BodyLoose.notSynchronized Bd
  have hml : c.maxLocals = 5 := hml0
  have hown : s.vm.findClass "com/example/hermod/hermod/RecordKeys" = some m.cls := findClass_of_methodNamed Bd.named
  have hnm := (name_of_methodNamed Bd.named Bd.method).1
  have X0 : Stand p l e ({ frames := 6, cells := 3, slots := 24, locals := 99 } : Room) s m #[(.ref a1), (.int sq), (.ref a3)] below meth c s₁ [] 0 0 := Stand.of_body Bd
  have e0 : s₁.heap = h0 := by rw [← hh, Bd.state]; rfl
  have N0 := Fr.nil n0
  show Gl p.tables e below _ _
  refine Gl.pre (fun t k => castTop (ef_ws m a1 sq a3 ss ut co a2 xs ys cs) k) ?_
  refine Gl.gen (fun PP hPP => ?_)
  have K0 : Keep h0 h0 [] := Keep.refl h0 _
  show Gl p.tables e below PP (s₁.setTop (mkF m 0 #[.val (.ref a1), .val (.int sq), .val (.ref a3), .unset, .unset] []))
  refine Y.aloadN X0 hx (hb hby d18_0) rfl rfl ?_
  obtain ⟨T1, X1, e1, st1⟩ := getS2 X0 hx hZ hown (host := "") (Or.inl (W 49 rfl)) Via.refl e0 (SUT.ext O_.2) (g := (mkF m 1 #[.val (.ref a1), .val (.int sq), .val (.ref a3), .unset, .unset] [(.ref a1)])) rfl (hb hby d18_1)
  refine Gl.pre (fun _ k => st1 _ k) ?_
  obtain ⟨cq2, kq2, qa2, qb2, qc2⟩ := isOf hZ e1 E_a1
  obtain ⟨_, _, ⟨T2, L2, k2, n2⟩, -, X2, ⟨Lc2, hQ2, l2, y2, z2⟩, st2⟩ := X1.virtualBack hx (y := (⟨"java/lang/String", "getBytes", "(Ljava/nio/charset/Charset;)[B"⟩ : MethodName)) (z := (⟨"java/lang/String", "getBytes", "(Ljava/nio/charset/Charset;)[B"⟩ : MethodName)) hown (mvT hZ (W 51 rfl)) (mvT hZ (W 52 rfl)) (notFace_of_selects (args := #[]) (mvT hZ (W 54 rfl))) (mvT hZ (W 54 rfl)) (mvT hZ (W 53 rfl)) (by decide) (backOf (W := 0) (rmgb l Z a0 hw [] a1 ut co a2 xs ys cs h0 n0 Z0 E_a1 F_value_a1 F_coder_a1 V_a2 E_a2 hrep hsd SIN SBC hcs SAD SHI SLO O_) hZ (W 55 rfl) (W 8 rfl) (by decide) (by decide)) qa2 qc2 (g := (mkF m 4 #[.val (.ref a1), .val (.int sq), .val (.ref a3), .unset, .unset] [(.ref ut), (.ref a1)])) rfl (by rw [hml]; rfl) (Steps.refl _) (argsL := [(.ref ut)]) (rest := []) (lenOf pd_17 rfl) rfl (by show 2 * 0 + _ ≤ _; exact Nat.le_of_eq rfl) (hb hby d18_4) (fun _ _ => ⟨rfl, e1, (by decide : 0 + 2 ≤ _), (by decide : 0 + 11 ≤ _)⟩)
  dsimp only [Pt.U, Pt.locs, Pt.cells, Pt.slots] at X2 l2 y2 z2 st2 hQ2
  subst l2 y2 z2
  obtain ⟨bx2, rfl, N2q, hz2, K2, V2q⟩ := hQ2
  have N2 := Fr.app N0 N2q
  refine Gl.pre (fun _ k => st2.trans k) ?_
  have own_ne_a1_bx2 : a1 ≠ bx2 := Nat.ne_of_lt (Nat.lt_of_lt_of_le E_a1.lt hz2)
  have own_ne_bx2_a1 := own_ne_a1_bx2.symm
  have own_ne_a2_bx2 : a2 ≠ bx2 := Nat.ne_of_lt (Nat.lt_of_lt_of_le V_a2.lt hz2)
  have own_ne_bx2_a2 := own_ne_a2_bx2.symm
  have own_ne_a3_bx2 : a3 ≠ bx2 := Nat.ne_of_lt (Nat.lt_of_lt_of_le V_a3.lt hz2)
  have own_ne_bx2_a3 := own_ne_a3_bx2.symm
  have g_bx2 : n0 ≤ bx2 := Nat.le_trans Z0 hz2
  have sz_bx2 : h0.size ≤ bx2 := Nat.le_trans K0.1 hz2
  have E_a1 := E_a1.keep K2
  have F_value_a1 := F_value_a1.keep K2 nin0
  have F_coder_a1 := F_coder_a1.keep K2 nin0
  have V_a2 := V_a2.keep K2 nin0
  have E_a2 := E_a2.keep K2
  have V_a3 := V_a3.keep K2 nin0
  have O_ := O_.keep K2 all0
  have Z2 : n0 ≤ T2.heap.size := Nat.le_trans Z0 K2.1
  have K2k := K0.trans K2 all0
  have V_bx2 := V2q
  refine Y.astoreN X2 hx (hb hby d18_7) rfl rfl (l' := #[.val (.ref a1), .val (.int sq), .val (.ref a3), .val (.ref bx2), .unset]) rfl ?_
  refine Y.aloadN X2 hx (hb hby d18_8) rfl rfl ?_
  refine Gl.pre (fun _ k => own_len X2 hx hZ rfl V_bx2 (v := ((own_u xs).length.toInt32)) rfl (g := (mkF m 9 #[.val (.ref a1), .val (.int sq), .val (.ref a3), .val (.ref bx2), .unset] [(.ref bx2)])) rfl rfl (hb hby d18_9) _ k) ?_
  refine Y.iconst X2 hx (hb hby d18_10) ?_
  refine Y.iadd X2 hx (hb hby d18_11) rfl ?_
  refine Y.aloadN X2 hx (hb hby d18_12) rfl rfl ?_
  refine Gl.pre (fun _ k => own_len X2 hx hZ rfl V_a3 (v := (ss.length.toInt32)) rfl (g := (mkF m 13 #[.val (.ref a1), .val (.int sq), .val (.ref a3), .val (.ref bx2), .unset] [(.ref a3), (.int (((own_u xs).length.toInt32) + (1 : Int32)))])) rfl rfl (hb hby d18_13) _ k) ?_
  refine Y.iadd X2 hx (hb hby d18_14) rfl ?_
  obtain ⟨T3, h3, k3, X3, e3, E3, A3, st3⟩ := newP X2 hx hZ (W 28 rfl) rfl (g := (mkF m 15 #[.val (.ref a1), .val (.int sq), .val (.ref a3), .val (.ref bx2), .unset] [(.int ((((own_u xs).length.toInt32) + (1 : Int32)) + (ss.length.toInt32)))])) rfl (hb hby d18_15) rfl (by rw [own_tnS, own_tnA]; exact own_tn0 (by have := own_ul (own_shl hsh); omega)) (cap := 13) (by rw [own_tnS, own_tnA, own_tnn (by have := own_ul (own_shl hsh); omega)]; have := own_ul (own_shl hsh); omega) (by decide) (by decide) (by decide)
  obtain ⟨b3, g3⟩ : ∃ z, z = T2.heap.size := ⟨_, rfl⟩
  rw [← g3] at A3 st3
  refine Gl.pre (fun _ k => st3 _ k) ?_
  have own_ne_a1_b3 : a1 ≠ b3 := by have q := E_a1.lt; rw [g3]; exact Nat.ne_of_lt q
  have own_ne_b3_a1 : b3 ≠ a1 := own_ne_a1_b3.symm
  have own_ne_a2_b3 : a2 ≠ b3 := by have q := V_a2.lt; rw [g3]; exact Nat.ne_of_lt q
  have own_ne_b3_a2 : b3 ≠ a2 := own_ne_a2_b3.symm
  have own_ne_a3_b3 : a3 ≠ b3 := by have q := V_a3.lt; rw [g3]; exact Nat.ne_of_lt q
  have own_ne_b3_a3 : b3 ≠ a3 := own_ne_a3_b3.symm
  have own_ne_bx2_b3 : bx2 ≠ b3 := by have q := V_bx2.lt; rw [g3]; exact Nat.ne_of_lt q
  have own_ne_b3_bx2 : b3 ≠ bx2 := own_ne_bx2_b3.symm
  have g_b3 : n0 ≤ b3 := Nat.le_trans Z2 (Nat.le_of_eq g3.symm)
  have sz_b3 : h0.size ≤ b3 := Nat.le_trans K2k.1 (Nat.le_of_eq g3.symm)
  have E_a1 := E_a1.ext E3
  have F_value_a1 := F_value_a1.ext E3
  have F_coder_a1 := F_coder_a1.ext E3
  have V_a2 := V_a2.ext E3
  have E_a2 := E_a2.ext E3
  have V_a3 := V_a3.ext E3
  have O_ := O_.ext E3
  have V_bx2 := V_bx2.ext E3
  have Z3 : n0 ≤ h3.size := Nat.le_trans Z2 E3.1
  have K3 := K2k.ext E3
  have V_b3 : Bal Z h3 b3 .byte (List.replicate (((((own_u xs).length.toInt32) + (1 : Int32)) + (ss.length.toInt32))).toNatClampNeg 0) := Bal.new (ty := .byte) A3 (n := (((((own_u xs).length.toInt32) + (1 : Int32)) + (ss.length.toInt32))).toNatClampNeg) rfl rfl
  have V_b3 : Bal Z h3 b3 .byte (List.replicate ((own_u xs).length + 1 + ss.length) 0) := by have q := V_b3; rw [own_tnS, own_tnA, own_tnn (by have := own_ul (own_shl hsh); omega)] at q; exact q
  refine Y.astore X3 hx (hb hby d18_17) rfl rfl (l' := #[.val (.ref a1), .val (.int sq), .val (.ref a3), .val (.ref bx2), .val (.ref b3)]) rfl ?_
  refine Y.aloadN X3 hx (hb hby d18_19) rfl rfl ?_
  refine Y.iconst X3 hx (hb hby d18_20) ?_
  refine Y.aload X3 hx (hb hby d18_21) rfl rfl ?_
  refine Y.iconst X3 hx (hb hby d18_23) ?_
  refine Y.aloadN X3 hx (hb hby d18_24) rfl rfl ?_
  refine Gl.pre (fun _ k => own_len X3 hx hZ e3 V_bx2 (v := ((own_u xs).length.toInt32)) rfl (g := (mkF m 25 #[.val (.ref a1), .val (.int sq), .val (.ref a3), .val (.ref bx2), .val (.ref b3)] [(.ref bx2), (.int (0 : Int32)), (.ref b3), (.int (0 : Int32)), (.ref bx2)])) rfl rfl (hb hby d18_25) _ k) ?_
  obtain ⟨T4, h4, L4, X4, e4, N4, K4, V4q, st4⟩ := own_cpB X3 hx hZ hown (W 91 rfl) (W 94 rfl) (W 92 rfl) (W 93 rfl) e3 V_bx2 V_b3 (own_uf xs) (own_fit_rep _) (d := 0) (k := (own_u xs).length) rfl rfl (Nat.le_refl _) (by have := own_ul (own_shl hsh); rw [List.length_replicate]; omega) (by have := own_ul (own_shl hsh); omega) (by have := own_ul (own_shl hsh); rw [List.length_replicate]; omega) N2 g_b3 (g := (mkF m 26 #[.val (.ref a1), .val (.int sq), .val (.ref a3), .val (.ref bx2), .val (.ref b3)] [(.int ((own_u xs).length.toInt32)), (.int (0 : Int32)), (.ref b3), (.int (0 : Int32)), (.ref bx2)])) rfl (by rw [hml]; rfl) rfl (hb hby d18_26) (by decide) (W := 0) (by show 2 * 0 + _ ≤ _; exact Nat.le_of_eq rfl) (by decide)
  refine Gl.pre (fun _ k => st4 _ k) ?_
  have E_a1 := E_a1.keep K4
  have F_value_a1 := F_value_a1.keep K4 (ninS (own_ne_a1_b3) nin0)
  have F_coder_a1 := F_coder_a1.keep K4 (ninS (own_ne_a1_b3) nin0)
  have V_a2 := V_a2.keep K4 (ninS (own_ne_a2_b3) nin0)
  have E_a2 := E_a2.keep K4
  have V_a3 := V_a3.keep K4 (ninS (own_ne_a3_b3) nin0)
  have O_ := O_.keep K4 (allS g_b3 all0)
  have V_bx2 := V_bx2.keep K4 (ninS (own_ne_bx2_b3) nin0)
  have Z4 : n0 ≤ h4.size := Nat.le_trans Z3 K4.1
  have K4k := K3.trans K4 (allS (Or.inr sz_b3) all0)
  have V_b3 : Bal Z h4 b3 .byte (own_u xs ++ List.replicate (ss.length + 1) 0) := by have q := V4q; rw [own_ws1] at q; exact q
  show Gl p.tables e below PP (T4.setTop (mkF m 29 #[.val (.ref a1), .val (.int sq), .val (.ref a3), .val (.ref bx2), .val (.ref b3)] []))
  refine Y.aload X4 hx (hb hby d18_29) rfl rfl ?_
  refine Y.aloadN X4 hx (hb hby d18_31) rfl rfl ?_
  refine Gl.pre (fun _ k => own_len X4 hx hZ e4 V_bx2 (v := ((own_u xs).length.toInt32)) rfl (g := (mkF m 32 #[.val (.ref a1), .val (.int sq), .val (.ref a3), .val (.ref bx2), .val (.ref b3)] [(.ref bx2), (.ref b3)])) rfl rfl (hb hby d18_32) _ k) ?_
  refine Y.iloadN X4 hx (hb hby d18_33) rfl ?_
  obtain ⟨T5, h5, X5, e5, W5, V5, st5⟩ := own_stB X4 hx hZ e4 V_b3 (j := ((own_u xs).length.toInt32)) (i := (own_u xs).length) (own_tn0 (by have := own_ul (own_shl hsh); omega)) (own_tnn (by have := own_ul (own_shl hsh); omega)) (by simp only [List.length_append, List.length_replicate]; omega) (g := (mkF m 34 #[.val (.ref a1), .val (.int sq), .val (.ref a3), .val (.ref bx2), .val (.ref b3)] [(.int sq), (.int ((own_u xs).length.toInt32)), (.ref b3)])) rfl rfl (hb hby d18_34)
  refine Gl.pre (fun _ k => st5 _ k) ?_
  have E_a1 := E_a1.wr W5
  have F_value_a1 := F_value_a1.other W5 (Or.inl (own_ne_a1_b3))
  have F_coder_a1 := F_coder_a1.other W5 (Or.inl (own_ne_a1_b3))
  have V_a2 := V_a2.other W5 (own_ne_a2_b3)
  have E_a2 := E_a2.wr W5
  have V_a3 := V_a3.other W5 (own_ne_a3_b3)
  have O_ := O_.wr W5 g_b3
  have V_bx2 := V_bx2.other W5 (own_ne_bx2_b3)
  have Z5 : n0 ≤ h5.size := by rw [W5.size]; exact Z4
  have N5 := Fr.snoc X5 N4 g_b3
  have K5 := K4k.wr W5 (Or.inr sz_b3)
  have V_b3 := V5
  have V_b3 : Bal Z h5 b3 .byte (own_u xs ++ (nar .byte sq) :: List.replicate ss.length 0) := by have q := V_b3; rw [own_ws2] at q; exact q
  refine Y.aloadN X5 hx (hb hby d18_35) rfl rfl ?_
  refine Y.iconst X5 hx (hb hby d18_36) ?_
  refine Y.aload X5 hx (hb hby d18_37) rfl rfl ?_
  refine Y.aloadN X5 hx (hb hby d18_39) rfl rfl ?_
  refine Gl.pre (fun _ k => own_len X5 hx hZ e5 V_bx2 (v := ((own_u xs).length.toInt32)) rfl (g := (mkF m 40 #[.val (.ref a1), .val (.int sq), .val (.ref a3), .val (.ref bx2), .val (.ref b3)] [(.ref bx2), (.ref b3), (.int (0 : Int32)), (.ref a3)])) rfl rfl (hb hby d18_40) _ k) ?_
  refine Y.iconst X5 hx (hb hby d18_41) ?_
  refine Y.iadd X5 hx (hb hby d18_42) rfl ?_
  refine Y.aloadN X5 hx (hb hby d18_43) rfl rfl ?_
  refine Gl.pre (fun _ k => own_len X5 hx hZ e5 V_a3 (v := (ss.length.toInt32)) rfl (g := (mkF m 44 #[.val (.ref a1), .val (.int sq), .val (.ref a3), .val (.ref bx2), .val (.ref b3)] [(.ref a3), (.int (((own_u xs).length.toInt32) + (1 : Int32))), (.ref b3), (.int (0 : Int32)), (.ref a3)])) rfl rfl (hb hby d18_44) _ k) ?_
  obtain ⟨T6, h6, L6, X6, e6, N6, K6, V6q, st6⟩ := own_cpB X5 hx hZ hown (W 91 rfl) (W 94 rfl) (W 92 rfl) (W 93 rfl) e5 V_a3 V_b3 hfs (own_fit_app (own_uf xs) (own_fit_cons (own_fit_rep _))) (d := ((own_u xs).length + 1)) (k := ss.length) (own_tnS _) rfl (Nat.le_refl _) (by simp only [List.length_append, List.length_cons, List.length_replicate]; omega) (by omega) (by have := own_ul (own_shl hsh); simp only [List.length_append, List.length_cons, List.length_replicate]; omega) N5 g_b3 (g := (mkF m 45 #[.val (.ref a1), .val (.int sq), .val (.ref a3), .val (.ref bx2), .val (.ref b3)] [(.int (ss.length.toInt32)), (.int (((own_u xs).length.toInt32) + (1 : Int32))), (.ref b3), (.int (0 : Int32)), (.ref a3)])) rfl (by rw [hml]; rfl) rfl (hb hby d18_45) (by decide) (W := 0) (by show 2 * 0 + _ ≤ _; exact Nat.le_of_eq rfl) (by decide)
  refine Gl.pre (fun _ k => st6 _ k) ?_
  have E_a1 := E_a1.keep K6
  have F_value_a1 := F_value_a1.keep K6 (ninS (own_ne_a1_b3) nin0)
  have F_coder_a1 := F_coder_a1.keep K6 (ninS (own_ne_a1_b3) nin0)
  have V_a2 := V_a2.keep K6 (ninS (own_ne_a2_b3) nin0)
  have E_a2 := E_a2.keep K6
  have V_a3 := V_a3.keep K6 (ninS (own_ne_a3_b3) nin0)
  have O_ := O_.keep K6 (allS g_b3 all0)
  have V_bx2 := V_bx2.keep K6 (ninS (own_ne_bx2_b3) nin0)
  have Z6 : n0 ≤ h6.size := Nat.le_trans Z5 K6.1
  have K6k := K5.trans K6 (allS (Or.inr sz_b3) all0)
  have V_b3 : Bal Z h6 b3 .byte (own_u xs ++ (nar .byte sq) :: ss) := by have q := V6q; rw [own_ws3] at q; exact q
  show Gl p.tables e below PP (T6.setTop (mkF m 48 #[.val (.ref a1), .val (.int sq), .val (.ref a3), .val (.ref bx2), .val (.ref b3)] []))
  refine Y.aload X6 hx (hb hby d18_48) rfl rfl ?_
  rw [hPP]
  refine own_finA (Q := (Qws Z a1 sq a3 ss ut co a2 xs ys cs h0 n0)) X6 hx hlk Bd.returns rfl rfl (hb hby d18_50) ?_ (by decide) (by decide)
  show Qws Z a1 sq a3 ss ut co a2 xs ys cs h0 n0 _ T6.heap _
  rw [e6]
  exact ⟨b3, rfl, N6, sz_b3, K6k, V_b3⟩
theorem d9_0 : decode method_4_code 0 = .ok (.iload_n 2, 1) := by decide +kernel
theorem d9_1 : decode method_4_code 1 = .ok (.istore_n 3, 1) := by decide +kernel
theorem d9_2 : decode method_4_code 2 = .ok (.iload_n 3, 1) := by decide +kernel
theorem d9_3 : decode method_4_code 3 = .ok (.sipush 128, 3) := by decide +kernel
theorem d9_6 : decode method_4_code 6 = .ok (.if_icmp .ge 12, 3) := by decide +kernel
theorem d9_9 : decode method_4_code 9 = .ok (.aload_n 0, 1) := by decide +kernel
theorem d9_10 : decode method_4_code 10 = .ok (.iload_n 1, 1) := by decide +kernel
theorem d9_11 : decode method_4_code 11 = .ok (.iload_n 3, 1) := by decide +kernel
theorem d9_12 : decode method_4_code 12 = .ok (.i2b, 1) := by decide +kernel
theorem d9_13 : decode method_4_code 13 = .ok (.bastore, 1) := by decide +kernel
theorem d9_14 : decode method_4_code 14 = .ok (.iload_n 1, 1) := by decide +kernel
theorem d9_15 : decode method_4_code 15 = .ok (.iconst 1, 1) := by decide +kernel
theorem d9_16 : decode method_4_code 16 = .ok (.iadd, 1) := by decide +kernel
theorem d9_17 : decode method_4_code 17 = .ok (.ireturn, 1) := by decide +kernel
theorem d9_18 : decode method_4_code 18 = .ok (.iload_n 3, 1) := by decide +kernel
theorem d9_19 : decode method_4_code 19 = .ok (.sipush 2048, 3) := by decide +kernel
theorem d9_22 : decode method_4_code 22 = .ok (.if_icmp .ge 33, 3) := by decide +kernel
theorem d9_25 : decode method_4_code 25 = .ok (.aload_n 0, 1) := by decide +kernel
theorem d9_26 : decode method_4_code 26 = .ok (.iload_n 1, 1) := by decide +kernel
theorem d9_27 : decode method_4_code 27 = .ok (.sipush 192, 3) := by decide +kernel
theorem d9_30 : decode method_4_code 30 = .ok (.iload_n 3, 1) := by decide +kernel
theorem d9_31 : decode method_4_code 31 = .ok (.bipush 6, 2) := by decide +kernel
theorem d9_33 : decode method_4_code 33 = .ok (.ishr, 1) := by decide +kernel
theorem d9_34 : decode method_4_code 34 = .ok (.ior, 1) := by decide +kernel
theorem d9_35 : decode method_4_code 35 = .ok (.i2b, 1) := by decide +kernel
theorem d9_36 : decode method_4_code 36 = .ok (.bastore, 1) := by decide +kernel
theorem d9_37 : decode method_4_code 37 = .ok (.aload_n 0, 1) := by decide +kernel
theorem d9_38 : decode method_4_code 38 = .ok (.iload_n 1, 1) := by decide +kernel
theorem d9_39 : decode method_4_code 39 = .ok (.iconst 1, 1) := by decide +kernel
theorem d9_40 : decode method_4_code 40 = .ok (.iadd, 1) := by decide +kernel
theorem d9_41 : decode method_4_code 41 = .ok (.sipush 128, 3) := by decide +kernel
theorem d9_44 : decode method_4_code 44 = .ok (.iload_n 3, 1) := by decide +kernel
theorem d9_45 : decode method_4_code 45 = .ok (.bipush 63, 2) := by decide +kernel
theorem d9_47 : decode method_4_code 47 = .ok (.iand, 1) := by decide +kernel
theorem d9_48 : decode method_4_code 48 = .ok (.ior, 1) := by decide +kernel
theorem d9_49 : decode method_4_code 49 = .ok (.i2b, 1) := by decide +kernel
theorem d9_50 : decode method_4_code 50 = .ok (.bastore, 1) := by decide +kernel
theorem d9_51 : decode method_4_code 51 = .ok (.iload_n 1, 1) := by decide +kernel
theorem d9_52 : decode method_4_code 52 = .ok (.iconst 2, 1) := by decide +kernel
theorem d9_53 : decode method_4_code 53 = .ok (.iadd, 1) := by decide +kernel
theorem d9_54 : decode method_4_code 54 = .ok (.ireturn, 1) := by decide +kernel
theorem d9_55 : decode method_4_code 55 = .ok (.aload_n 0, 1) := by decide +kernel
theorem d9_56 : decode method_4_code 56 = .ok (.iload_n 1, 1) := by decide +kernel
theorem d9_57 : decode method_4_code 57 = .ok (.sipush 224, 3) := by decide +kernel
theorem d9_60 : decode method_4_code 60 = .ok (.iload_n 3, 1) := by decide +kernel
theorem d9_61 : decode method_4_code 61 = .ok (.bipush 12, 2) := by decide +kernel
theorem d9_63 : decode method_4_code 63 = .ok (.ishr, 1) := by decide +kernel
theorem d9_64 : decode method_4_code 64 = .ok (.ior, 1) := by decide +kernel
theorem d9_65 : decode method_4_code 65 = .ok (.i2b, 1) := by decide +kernel
theorem d9_66 : decode method_4_code 66 = .ok (.bastore, 1) := by decide +kernel
theorem d9_67 : decode method_4_code 67 = .ok (.aload_n 0, 1) := by decide +kernel
theorem d9_68 : decode method_4_code 68 = .ok (.iload_n 1, 1) := by decide +kernel
theorem d9_69 : decode method_4_code 69 = .ok (.iconst 1, 1) := by decide +kernel
theorem d9_70 : decode method_4_code 70 = .ok (.iadd, 1) := by decide +kernel
theorem d9_71 : decode method_4_code 71 = .ok (.sipush 128, 3) := by decide +kernel
theorem d9_74 : decode method_4_code 74 = .ok (.iload_n 3, 1) := by decide +kernel
theorem d9_75 : decode method_4_code 75 = .ok (.bipush 6, 2) := by decide +kernel
theorem d9_77 : decode method_4_code 77 = .ok (.ishr, 1) := by decide +kernel
theorem d9_78 : decode method_4_code 78 = .ok (.bipush 63, 2) := by decide +kernel
theorem d9_80 : decode method_4_code 80 = .ok (.iand, 1) := by decide +kernel
theorem d9_81 : decode method_4_code 81 = .ok (.ior, 1) := by decide +kernel
theorem d9_82 : decode method_4_code 82 = .ok (.i2b, 1) := by decide +kernel
theorem d9_83 : decode method_4_code 83 = .ok (.bastore, 1) := by decide +kernel
theorem d9_84 : decode method_4_code 84 = .ok (.aload_n 0, 1) := by decide +kernel
theorem d9_85 : decode method_4_code 85 = .ok (.iload_n 1, 1) := by decide +kernel
theorem d9_86 : decode method_4_code 86 = .ok (.iconst 2, 1) := by decide +kernel
theorem d9_87 : decode method_4_code 87 = .ok (.iadd, 1) := by decide +kernel
theorem d9_88 : decode method_4_code 88 = .ok (.sipush 128, 3) := by decide +kernel
theorem d9_91 : decode method_4_code 91 = .ok (.iload_n 3, 1) := by decide +kernel
theorem d9_92 : decode method_4_code 92 = .ok (.bipush 63, 2) := by decide +kernel
theorem d9_94 : decode method_4_code 94 = .ok (.iand, 1) := by decide +kernel
theorem d9_95 : decode method_4_code 95 = .ok (.ior, 1) := by decide +kernel
theorem d9_96 : decode method_4_code 96 = .ok (.i2b, 1) := by decide +kernel
theorem d9_97 : decode method_4_code 97 = .ok (.bastore, 1) := by decide +kernel
theorem d9_98 : decode method_4_code 98 = .ok (.iload_n 1, 1) := by decide +kernel
theorem d9_99 : decode method_4_code 99 = .ok (.iconst 3, 1) := by decide +kernel
theorem d9_100 : decode method_4_code 100 = .ok (.iadd, 1) := by decide +kernel
theorem d9_101 : decode method_4_code 101 = .ok (.ireturn, 1) := by decide +kernel
theorem pn_9 : plainName "com/example/hermod/hermod/RecordKeysItemPinLaw" = true := by first | (simp [plainName, overriddenIn]; done) | decide +kernel
theorem ef_put (m : MethodId) (a1 : Addr) (pq : Int32) (pc : Int32) (ps : List Int32) : entryFrame m #[(.ref a1), (.int pq), (.int pc)] 4 = mkF m 0 #[.val (.ref a1), .val (.int pq), .val (.int pc), .unset] [] := by first | (simp [entryFrame, mkF, argsToLocals, Value.category]; done) | rfl
def Qput (Z : State) (a1 : Addr) (pq : Int32) (pc : Int32) (ps : List Int32) (h0 : Heap) (n0 : Nat) (v : Option Value) (h : Heap) (L : List Loc) : Prop := v = some (.int ((ps ++ own_u1 pc).length.toInt32)) ∧ Fr n0 L ∧ Keep h0 h [a1] ∧ Bal Z h a1 .byte (own_pad 13 (ps ++ own_u1 pc))
set_option maxRecDepth 65536 in
set_option maxHeartbeats 40000000 in
theorem rmput (l : Launch) (Z : State) (a0 : Array Value) (hw : ∀ d ∈ tables_1, d.before a0 Z = true) (ws : List Jvm.Cond) (a1 : Addr) (pq : Int32) (pc : Int32) (ps : List Int32) (h0 : Heap) (n0 : Nat) (Z0 : n0 ≤ h0.size) (V_a1 : Bal Z h0 a1 .byte (own_pad 13 ps)) (hpq : pq = ps.length.toInt32) (hps : ps.length + 3 ≤ 13) (g_a1 : n0 ≤ a1) :
    MetFree l (⟨"com/example/hermod/hermod/RecordKeysItemPinLaw", "put", "([BIC)I"⟩ : MethodName) (head1 (Jvm.Cond.code (⟨"com/example/hermod/hermod/RecordKeysItemPinLaw", "put", "([BIC)I"⟩ : MethodName) method_4_code 4 (some .int) :: ws) ({ frames := 0, cells := 0, slots := 0, locals := 0 } : Room)) (fun a U => a = #[(.ref a1), (.int pq), (.int pc)] ∧ Z.Warmed39 U.vm ∧ U.heap = h0) (fun _ _ _ _ _ => True) (fun _ U o U' => ∃ v L, o = .returned v ∧ Qput Z a1 pq pc ps h0 n0 v U'.heap L ∧ FrameEnd U o U' L ({ frames := 0, cells := 0, slots := 0, locals := 0 } : Room).cells ({ frames := 0, cells := 0, slots := 0, locals := 0 } : Room).slots) := by
  have W := @own_wd Z a0 hw
  refine MetFree.of_bodySF (plainFor_of_name pn_9) hisR ?_
  intro p e s m args below meth c s₁ Bd hml0 hP hK
  obtain ⟨rfl, hZ, hh⟩ := hP
  have hx := Bd.exec
  have hby := Bd.bytes
  have hlk : meth.locks = false := BodyLoose.notSynchronized Bd
  have hml : c.maxLocals = 4 := hml0
  have hown : s.vm.findClass "com/example/hermod/hermod/RecordKeysItemPinLaw" = some m.cls := findClass_of_methodNamed Bd.named
  have hnm := (name_of_methodNamed Bd.named Bd.method).1
  have X0 : Stand p l e ({ frames := 0, cells := 0, slots := 0, locals := 0 } : Room) s m #[(.ref a1), (.int pq), (.int pc)] below meth c s₁ [] 0 0 := Stand.of_body Bd
  have e0 : s₁.heap = h0 := by rw [← hh, Bd.state]; rfl
  have N0 := Fr.nil n0
  show Gl p.tables e below _ _
  refine Gl.pre (fun t k => castTop (ef_put m a1 pq pc ps) k) ?_
  refine Gl.gen (fun PP hPP => ?_)
  have K0 : Keep h0 h0 [a1] := Keep.refl h0 _
  show Gl p.tables e below PP (s₁.setTop (mkF m 0 #[.val (.ref a1), .val (.int pq), .val (.int pc), .unset] []))
  refine Y.iloadN X0 hx (hb hby d9_0) rfl ?_
  refine Y.istoreN X0 hx (hb hby d9_1) rfl (l' := #[.val (.ref a1), .val (.int pq), .val (.int pc), .val (.int pc)]) rfl ?_
  refine Y.iloadN X0 hx (hb hby d9_2) rfl ?_
  refine Y.sipush X0 hx (hb hby d9_3) ?_
  by_cases hc1 : pc < (128 : Int32)
  refine Y.icmpNo X0 hx (hb hby d9_6) rfl (tlt hc1).2.1 ?_
  refine Y.aloadN X0 hx (hb hby d9_9) rfl rfl ?_
  refine Y.iloadN X0 hx (hb hby d9_10) rfl ?_
  refine Y.iloadN X0 hx (hb hby d9_11) rfl ?_
  refine Y.i2b X0 hx (hb hby d9_12) rfl ?_
  obtain ⟨T2, h2, X2, e2, W2, V2, st2⟩ := own_stB X0 hx hZ e0 V_a1 (j := pq) (i := ps.length) (by rw [hpq]; exact own_tn0 (by omega)) (by rw [hpq]; exact own_tnn (by omega)) (by first | (simp only [List.length_set]; rw [own_padl (by omega)]; omega) | (rw [own_padl (by omega)]; omega)) (g := (mkF m 13 #[.val (.ref a1), .val (.int pq), .val (.int pc), .val (.int pc)] [(.int (pc.toInt8.toInt32)), (.int pq), (.ref a1)])) rfl rfl (hb hby d9_13)
  refine Gl.pre (fun _ k => st2 _ k) ?_
  have Z2 : n0 ≤ h2.size := by rw [W2.size]; exact Z0
  have N2 := Fr.snoc X2 N0 g_a1
  have K2 := K0.wr W2 (Or.inl (List.mem_of_getElem? (i := 0) rfl))
  have V_a1 := V2
  refine Y.iloadN X2 hx (hb hby d9_14) rfl ?_
  refine Y.iconst X2 hx (hb hby d9_15) ?_
  refine Y.iadd X2 hx (hb hby d9_16) rfl ?_
  rw [hPP]
  refine own_finI (Q := (Qput Z a1 pq pc ps h0 n0)) X2 hx hlk Bd.returns (hb hby d9_17) ?_ (by decide) (by decide)
  show Qput Z a1 pq pc ps h0 n0 _ T2.heap _
  rw [e2]
  refine ⟨?_, N2, K2, ?_⟩
  rw [own_u1a hc1, hpq, List.length_append]; exact congrArg (fun z => some (Value.int z)) (own_tnS _)
  rw [own_u1a hc1]; have q := V_a1; rw [own_pad1 (by omega)] at q; exact q
  refine Y.icmpYes X0 hx (pc0 := 6) (pc' := 18) rfl (hb hby d9_6) rfl (flt hc1).2.1 (by decide) (by decide) ?_
  refine Y.iloadN X0 hx (hb hby d9_18) rfl ?_
  refine Y.sipush X0 hx (hb hby d9_19) ?_
  by_cases hc3 : pc < (2048 : Int32)
  refine Y.icmpNo X0 hx (hb hby d9_22) rfl (tlt hc3).2.1 ?_
  refine Y.aloadN X0 hx (hb hby d9_25) rfl rfl ?_
  refine Y.iloadN X0 hx (hb hby d9_26) rfl ?_
  refine Y.sipush X0 hx (hb hby d9_27) ?_
  refine Y.iloadN X0 hx (hb hby d9_30) rfl ?_
  refine Y.bipush X0 hx (hb hby d9_31) ?_
  refine Y.ishr X0 hx (hb hby d9_33) rfl ?_
  refine Y.ior X0 hx (hb hby d9_34) rfl ?_
  refine Y.i2b X0 hx (hb hby d9_35) rfl ?_
  obtain ⟨T4, h4, X4, e4, W4, V4, st4⟩ := own_stB X0 hx hZ e0 V_a1 (j := pq) (i := ps.length) (by rw [hpq]; exact own_tn0 (by omega)) (by rw [hpq]; exact own_tnn (by omega)) (by first | (simp only [List.length_set]; rw [own_padl (by omega)]; omega) | (rw [own_padl (by omega)]; omega)) (g := (mkF m 36 #[.val (.ref a1), .val (.int pq), .val (.int pc), .val (.int pc)] [(.int (((192 : Int32) ||| (pc >>> ((6 : Int32) &&& 31))).toInt8.toInt32)), (.int pq), (.ref a1)])) rfl rfl (hb hby d9_36)
  refine Gl.pre (fun _ k => st4 _ k) ?_
  have Z4 : n0 ≤ h4.size := by rw [W4.size]; exact Z0
  have N4 := Fr.snoc X4 N0 g_a1
  have K4 := K0.wr W4 (Or.inl (List.mem_of_getElem? (i := 0) rfl))
  have V_a1 := V4
  refine Y.aloadN X4 hx (hb hby d9_37) rfl rfl ?_
  refine Y.iloadN X4 hx (hb hby d9_38) rfl ?_
  refine Y.iconst X4 hx (hb hby d9_39) ?_
  refine Y.iadd X4 hx (hb hby d9_40) rfl ?_
  refine Y.sipush X4 hx (hb hby d9_41) ?_
  refine Y.iloadN X4 hx (hb hby d9_44) rfl ?_
  refine Y.bipush X4 hx (hb hby d9_45) ?_
  refine Y.iand X4 hx (hb hby d9_47) rfl ?_
  refine Y.ior X4 hx (hb hby d9_48) rfl ?_
  refine Y.i2b X4 hx (hb hby d9_49) rfl ?_
  obtain ⟨T5, h5, X5, e5, W5, V5, st5⟩ := own_stB X4 hx hZ e4 V_a1 (j := (pq + (1 : Int32))) (i := (ps.length + 1)) (by rw [hpq, own_tnS]; exact own_tn0 (by omega)) (by rw [hpq, own_tnS]; exact own_tnn (by omega)) (by first | (simp only [List.length_set]; rw [own_padl (by omega)]; omega) | (rw [own_padl (by omega)]; omega)) (g := (mkF m 50 #[.val (.ref a1), .val (.int pq), .val (.int pc), .val (.int pc)] [(.int (((128 : Int32) ||| (pc &&& (63 : Int32))).toInt8.toInt32)), (.int (pq + (1 : Int32))), (.ref a1)])) rfl rfl (hb hby d9_50)
  refine Gl.pre (fun _ k => st5 _ k) ?_
  have Z5 : n0 ≤ h5.size := by rw [W5.size]; exact Z4
  have N5 := Fr.snoc X5 N4 g_a1
  have K5 := K4.wr W5 (Or.inl (List.mem_of_getElem? (i := 0) rfl))
  have V_a1 := V5
  refine Y.iloadN X5 hx (hb hby d9_51) rfl ?_
  refine Y.iconst X5 hx (hb hby d9_52) ?_
  refine Y.iadd X5 hx (hb hby d9_53) rfl ?_
  rw [hPP]
  refine own_finI (Q := (Qput Z a1 pq pc ps h0 n0)) X5 hx hlk Bd.returns (hb hby d9_54) ?_ (by decide) (by decide)
  show Qput Z a1 pq pc ps h0 n0 _ T5.heap _
  rw [e5]
  refine ⟨?_, N5, K5, ?_⟩
  rw [own_u1b hc1 hc3, hpq, List.length_append]; exact congrArg (fun z => some (Value.int z)) (own_tn2 _)
  rw [own_u1b hc1 hc3]; have q := V_a1; rw [own_pad2 (by omega)] at q; exact q
  refine Y.icmpYes X0 hx (pc0 := 22) (pc' := 55) rfl (hb hby d9_22) rfl (flt hc3).2.1 (by decide) (by decide) ?_
  refine Y.aloadN X0 hx (hb hby d9_55) rfl rfl ?_
  refine Y.iloadN X0 hx (hb hby d9_56) rfl ?_
  refine Y.sipush X0 hx (hb hby d9_57) ?_
  refine Y.iloadN X0 hx (hb hby d9_60) rfl ?_
  refine Y.bipush X0 hx (hb hby d9_61) ?_
  refine Y.ishr X0 hx (hb hby d9_63) rfl ?_
  refine Y.ior X0 hx (hb hby d9_64) rfl ?_
  refine Y.i2b X0 hx (hb hby d9_65) rfl ?_
  obtain ⟨T6, h6, X6, e6, W6, V6, st6⟩ := own_stB X0 hx hZ e0 V_a1 (j := pq) (i := ps.length) (by rw [hpq]; exact own_tn0 (by omega)) (by rw [hpq]; exact own_tnn (by omega)) (by first | (simp only [List.length_set]; rw [own_padl (by omega)]; omega) | (rw [own_padl (by omega)]; omega)) (g := (mkF m 66 #[.val (.ref a1), .val (.int pq), .val (.int pc), .val (.int pc)] [(.int (((224 : Int32) ||| (pc >>> ((12 : Int32) &&& 31))).toInt8.toInt32)), (.int pq), (.ref a1)])) rfl rfl (hb hby d9_66)
  refine Gl.pre (fun _ k => st6 _ k) ?_
  have Z6 : n0 ≤ h6.size := by rw [W6.size]; exact Z0
  have N6 := Fr.snoc X6 N0 g_a1
  have K6 := K0.wr W6 (Or.inl (List.mem_of_getElem? (i := 0) rfl))
  have V_a1 := V6
  refine Y.aloadN X6 hx (hb hby d9_67) rfl rfl ?_
  refine Y.iloadN X6 hx (hb hby d9_68) rfl ?_
  refine Y.iconst X6 hx (hb hby d9_69) ?_
  refine Y.iadd X6 hx (hb hby d9_70) rfl ?_
  refine Y.sipush X6 hx (hb hby d9_71) ?_
  refine Y.iloadN X6 hx (hb hby d9_74) rfl ?_
  refine Y.bipush X6 hx (hb hby d9_75) ?_
  refine Y.ishr X6 hx (hb hby d9_77) rfl ?_
  refine Y.bipush X6 hx (hb hby d9_78) ?_
  refine Y.iand X6 hx (hb hby d9_80) rfl ?_
  refine Y.ior X6 hx (hb hby d9_81) rfl ?_
  refine Y.i2b X6 hx (hb hby d9_82) rfl ?_
  obtain ⟨T7, h7, X7, e7, W7, V7, st7⟩ := own_stB X6 hx hZ e6 V_a1 (j := (pq + (1 : Int32))) (i := (ps.length + 1)) (by rw [hpq, own_tnS]; exact own_tn0 (by omega)) (by rw [hpq, own_tnS]; exact own_tnn (by omega)) (by first | (simp only [List.length_set]; rw [own_padl (by omega)]; omega) | (rw [own_padl (by omega)]; omega)) (g := (mkF m 83 #[.val (.ref a1), .val (.int pq), .val (.int pc), .val (.int pc)] [(.int (((128 : Int32) ||| ((pc >>> ((6 : Int32) &&& 31)) &&& (63 : Int32))).toInt8.toInt32)), (.int (pq + (1 : Int32))), (.ref a1)])) rfl rfl (hb hby d9_83)
  refine Gl.pre (fun _ k => st7 _ k) ?_
  have Z7 : n0 ≤ h7.size := by rw [W7.size]; exact Z6
  have N7 := Fr.snoc X7 N6 g_a1
  have K7 := K6.wr W7 (Or.inl (List.mem_of_getElem? (i := 0) rfl))
  have V_a1 := V7
  refine Y.aloadN X7 hx (hb hby d9_84) rfl rfl ?_
  refine Y.iloadN X7 hx (hb hby d9_85) rfl ?_
  refine Y.iconst X7 hx (hb hby d9_86) ?_
  refine Y.iadd X7 hx (hb hby d9_87) rfl ?_
  refine Y.sipush X7 hx (hb hby d9_88) ?_
  refine Y.iloadN X7 hx (hb hby d9_91) rfl ?_
  refine Y.bipush X7 hx (hb hby d9_92) ?_
  refine Y.iand X7 hx (hb hby d9_94) rfl ?_
  refine Y.ior X7 hx (hb hby d9_95) rfl ?_
  refine Y.i2b X7 hx (hb hby d9_96) rfl ?_
  obtain ⟨T8, h8, X8, e8, W8, V8, st8⟩ := own_stB X7 hx hZ e7 V_a1 (j := (pq + (2 : Int32))) (i := (ps.length + 2)) (by rw [hpq, own_tn2]; exact own_tn0 (by omega)) (by rw [hpq, own_tn2]; exact own_tnn (by omega)) (by first | (simp only [List.length_set]; rw [own_padl (by omega)]; omega) | (rw [own_padl (by omega)]; omega)) (g := (mkF m 97 #[.val (.ref a1), .val (.int pq), .val (.int pc), .val (.int pc)] [(.int (((128 : Int32) ||| (pc &&& (63 : Int32))).toInt8.toInt32)), (.int (pq + (2 : Int32))), (.ref a1)])) rfl rfl (hb hby d9_97)
  refine Gl.pre (fun _ k => st8 _ k) ?_
  have Z8 : n0 ≤ h8.size := by rw [W8.size]; exact Z7
  have N8 := Fr.snoc X8 N7 g_a1
  have K8 := K7.wr W8 (Or.inl (List.mem_of_getElem? (i := 0) rfl))
  have V_a1 := V8
  refine Y.iloadN X8 hx (hb hby d9_98) rfl ?_
  refine Y.iconst X8 hx (hb hby d9_99) ?_
  refine Y.iadd X8 hx (hb hby d9_100) rfl ?_
  rw [hPP]
  refine own_finI (Q := (Qput Z a1 pq pc ps h0 n0)) X8 hx hlk Bd.returns (hb hby d9_101) ?_ (by decide) (by decide)
  show Qput Z a1 pq pc ps h0 n0 _ T8.heap _
  rw [e8]
  refine ⟨?_, N8, K8, ?_⟩
  rw [own_u1c hc1 hc3, hpq, List.length_append]; exact congrArg (fun z => some (Value.int z)) (own_tn3 _)
  rw [own_u1c hc1 hc3]; have q := V_a1; rw [own_pad3 (by omega)] at q; exact q
theorem d19_0 : decode method_5_code 0 = .ok (.iload_n 2, 1) := by decide +kernel
theorem d19_1 : decode method_5_code 1 = .ok (.iload_n 3, 1) := by decide +kernel
theorem d19_2 : decode method_5_code 2 = .ok (.if_icmp .ge 12, 3) := by decide +kernel
theorem d19_5 : decode method_5_code 5 = .ok (.aload_n 0, 1) := by decide +kernel
theorem d19_6 : decode method_5_code 6 = .ok (.iload_n 2, 1) := by decide +kernel
theorem d19_7 : decode method_5_code 7 = .ok (.baload, 1) := by decide +kernel
theorem d19_8 : decode method_5_code 8 = .ok (.aload_n 1, 1) := by decide +kernel
theorem d19_9 : decode method_5_code 9 = .ok (.iload_n 2, 1) := by decide +kernel
theorem d19_10 : decode method_5_code 10 = .ok (.baload, 1) := by decide +kernel
theorem d19_11 : decode method_5_code 11 = .ok (.if_icmp .ne 7, 3) := by decide +kernel
theorem d19_14 : decode method_5_code 14 = .ok (.iconst 1, 1) := by decide +kernel
theorem d19_15 : decode method_5_code 15 = .ok (.goto 4, 3) := by decide +kernel
theorem d19_19 : decode method_5_code 19 = .ok (.ireturn, 1) := by decide +kernel
theorem pn_19 : plainName "com/example/hermod/hermod/RecordKeysItemPinLaw" = true := by first | (simp [plainName, overriddenIn]; done) | decide +kernel
theorem ef_at (m : MethodId) (a1 : Addr) (a2 : Addr) (ij : Int32) (gs : List Int32) : entryFrame m #[(.ref a1), (.ref a2), (.int ij), (.int (gs.length.toInt32))] 4 = mkF m 0 #[.val (.ref a1), .val (.ref a2), .val (.int ij), .val (.int (gs.length.toInt32))] [] := by first | (simp [entryFrame, mkF, argsToLocals, Value.category]; done) | rfl
def Qat (Z : State) (a1 : Addr) (a2 : Addr) (ij : Int32) (gs : List Int32) (h0 : Heap) (n0 : Nat) (v : Option Value) (h : Heap) (L : List Loc) : Prop := v = some (.int (1 : Int32)) ∧ Fr n0 L ∧ h = h0
set_option maxRecDepth 65536 in
set_option maxHeartbeats 40000000 in
theorem rmat (l : Launch) (Z : State) (a0 : Array Value) (hw : ∀ d ∈ tables_1, d.before a0 Z = true) (ws : List Jvm.Cond) (a1 : Addr) (a2 : Addr) (ij : Int32) (gs : List Int32) (h0 : Heap) (n0 : Nat) (Z0 : n0 ≤ h0.size) (V_a1 : Bal Z h0 a1 .byte gs) (V_a2 : Bal Z h0 a2 .byte (own_pad 13 gs)) (hgl : gs.length ≤ 13) (hij : ¬ ij < 0) :
    MetFree l (⟨"com/example/hermod/hermod/RecordKeysItemPinLaw", "at", "([B[BII)Z"⟩ : MethodName) (head1 (Jvm.Cond.code (⟨"com/example/hermod/hermod/RecordKeysItemPinLaw", "at", "([B[BII)Z"⟩ : MethodName) method_5_code 4 (some .boolean) :: ws) ({ frames := 0, cells := 0, slots := 0, locals := 0 } : Room)) (fun a U => a = #[(.ref a1), (.ref a2), (.int ij), (.int (gs.length.toInt32))] ∧ Z.Warmed39 U.vm ∧ U.heap = h0) (fun _ _ _ _ _ => True) (fun _ U o U' => ∃ v L, o = .returned v ∧ Qat Z a1 a2 ij gs h0 n0 v U'.heap L ∧ FrameEnd U o U' L ({ frames := 0, cells := 0, slots := 0, locals := 0 } : Room).cells ({ frames := 0, cells := 0, slots := 0, locals := 0 } : Room).slots) := by
  have W := @own_wd Z a0 hw
  refine MetFree.of_bodySF (plainFor_of_name pn_19) hisR ?_
  intro p e s m args below meth c s₁ Bd hml0 hP hK
  obtain ⟨rfl, hZ, hh⟩ := hP
  have hx := Bd.exec
  have hby := Bd.bytes
  have hlk : meth.locks = false := BodyLoose.notSynchronized Bd
  have hml : c.maxLocals = 4 := hml0
  have hown : s.vm.findClass "com/example/hermod/hermod/RecordKeysItemPinLaw" = some m.cls := findClass_of_methodNamed Bd.named
  have hnm := (name_of_methodNamed Bd.named Bd.method).1
  have X0 : Stand p l e ({ frames := 0, cells := 0, slots := 0, locals := 0 } : Room) s m #[(.ref a1), (.ref a2), (.int ij), (.int (gs.length.toInt32))] below meth c s₁ [] 0 0 := Stand.of_body Bd
  have e0 : s₁.heap = h0 := by rw [← hh, Bd.state]; rfl
  have N0 := Fr.nil n0
  show Gl p.tables e below _ _
  refine Gl.pre (fun t k => castTop (ef_at m a1 a2 ij gs) k) ?_
  refine Gl.gen (fun PP hPP => ?_)
  show Gl p.tables e below PP (s₁.setTop (mkF m 0 #[.val (.ref a1), .val (.ref a2), .val (.int ij), .val (.int (gs.length.toInt32))] []))
  refine Y.iloadN X0 hx (hb hby d19_0) rfl ?_
  refine Y.iloadN X0 hx (hb hby d19_1) rfl ?_
  by_cases hc1 : ij < (gs.length.toInt32)
  refine Y.icmpNo X0 hx (hb hby d19_2) rfl (tlt hc1).2.1 ?_
  refine Y.aloadN X0 hx (hb hby d19_5) rfl rfl ?_
  refine Y.iloadN X0 hx (hb hby d19_6) rfl ?_
  refine Gl.pre (fun _ k => own_ldB X0 hx hZ e0 V_a1 (j := ij) (i := (ij).toNatClampNeg) hij rfl (own_atl (by omega) hij hc1) (v := (gs.getD (ij).toNatClampNeg 0)) rfl (g := (mkF m 7 #[.val (.ref a1), .val (.ref a2), .val (.int ij), .val (.int (gs.length.toInt32))] [(.int ij), (.ref a1)])) rfl rfl (hb hby d19_7) _ k) ?_
  refine Y.aloadN X0 hx (hb hby d19_8) rfl rfl ?_
  refine Y.iloadN X0 hx (hb hby d19_9) rfl ?_
  refine Gl.pre (fun _ k => own_ldB X0 hx hZ e0 V_a2 (j := ij) (i := (ij).toNatClampNeg) hij rfl (by rw [own_padl hgl]; have := own_atl (by omega) hij hc1; omega) (v := ((own_pad 13 gs).getD (ij).toNatClampNeg 0)) rfl (g := (mkF m 10 #[.val (.ref a1), .val (.ref a2), .val (.int ij), .val (.int (gs.length.toInt32))] [(.int ij), (.ref a2), (.int (gs.getD (ij).toNatClampNeg 0))])) rfl rfl (hb hby d19_10) _ k) ?_
  refine Y.icmpNo X0 hx (hb hby d19_11) rfl (teq (show (gs.getD (ij).toNatClampNeg 0) = ((own_pad 13 gs).getD (ij).toNatClampNeg 0) from (own_padg (own_atl (by omega) hij hc1)))).2 ?_
  refine Y.iconst X0 hx (hb hby d19_14) ?_
  refine Y.goto X0 hx (pc0 := 15) (pc' := 19) rfl (hb hby d19_15) (by decide) (by decide) ?_
  rw [hPP]
  refine own_finN (Q := (Qat Z a1 a2 ij gs h0 n0)) X0 hx hlk Bd.returns (t := .boolean) (z' := (1 : Int32)) (by simp) (by decide) (hb hby d19_19) ?_ (by decide) (by decide)
  show Qat Z a1 a2 ij gs h0 n0 _ s₁.heap _
  rw [e0]
  exact ⟨rfl, N0, rfl⟩
  refine Y.icmpYes X0 hx (pc0 := 2) (pc' := 14) rfl (hb hby d19_2) rfl (flt hc1).2.1 (by decide) (by decide) ?_
  refine Y.iconst X0 hx (hb hby d19_14) ?_
  refine Y.goto X0 hx (pc0 := 15) (pc' := 19) rfl (hb hby d19_15) (by decide) (by decide) ?_
  rw [hPP]
  refine own_finN (Q := (Qat Z a1 a2 ij gs h0 n0)) X0 hx hlk Bd.returns (t := .boolean) (z' := (1 : Int32)) (by simp) (by decide) (hb hby d19_19) ?_ (by decide) (by decide)
  show Qat Z a1 a2 ij gs h0 n0 _ s₁.heap _
  rw [e0]
  exact ⟨rfl, N0, rfl⟩
theorem d1_0 : decode method_2_code 0 = .ok (.iload_n 0, 1) := by decide +kernel
theorem d1_1 : decode method_2_code 1 = .ok (.ldc 7, 2) := by decide +kernel
theorem d1_3 : decode method_2_code 3 = .ok (.iand, 1) := by decide +kernel
theorem d1_4 : decode method_2_code 4 = .ok (.istore_n 1, 1) := by decide +kernel
theorem d1_5 : decode method_2_code 5 = .ok (.iload_n 1, 1) := by decide +kernel
theorem d1_6 : decode method_2_code 6 = .ok (.ldc 8, 2) := by decide +kernel
theorem d1_8 : decode method_2_code 8 = .ok (.if_icmp .lt 15, 3) := by decide +kernel
theorem d1_11 : decode method_2_code 11 = .ok (.iload_n 1, 1) := by decide +kernel
theorem d1_12 : decode method_2_code 12 = .ok (.ldc 9, 2) := by decide +kernel
theorem d1_14 : decode method_2_code 14 = .ok (.if_icmp .gt 9, 3) := by decide +kernel
theorem d1_17 : decode method_2_code 17 = .ok (.iload_n 1, 1) := by decide +kernel
theorem d1_18 : decode method_2_code 18 = .ok (.sipush 22528, 3) := by decide +kernel
theorem d1_21 : decode method_2_code 21 = .ok (.isub, 1) := by decide +kernel
theorem d1_22 : decode method_2_code 22 = .ok (.istore_n 1, 1) := by decide +kernel
theorem d1_23 : decode method_2_code 23 = .ok (.iload_n 1, 1) := by decide +kernel
theorem d1_24 : decode method_2_code 24 = .ok (.i2c, 1) := by decide +kernel
theorem d1_25 : decode method_2_code 25 = .ok (.ireturn, 1) := by decide +kernel
theorem pn_1 : plainName "com/example/hermod/hermod/RecordKeysItemPinLaw" = true := by first | (simp [plainName, overriddenIn]; done) | decide +kernel
theorem ef_pick (m : MethodId) (pb : Int32) : entryFrame m #[(.int pb)] 2 = mkF m 0 #[.val (.int pb), .unset] [] := by first | (simp [entryFrame, mkF, argsToLocals, Value.category]; done) | rfl
def Qpick (Z : State) (pb : Int32) (h0 : Heap) (n0 : Nat) (v : Option Value) (h : Heap) (L : List Loc) : Prop := v = some (.int (own_pick pb)) ∧ Fr n0 L ∧ h = h0
set_option maxRecDepth 65536 in
set_option maxHeartbeats 40000000 in
theorem rmpick (l : Launch) (Z : State) (a0 : Array Value) (hw : ∀ d ∈ tables_1, d.before a0 Z = true) (ws : List Jvm.Cond) (pb : Int32) (h0 : Heap) (n0 : Nat) (Z0 : n0 ≤ h0.size)  :
    MetFree l (⟨"com/example/hermod/hermod/RecordKeysItemPinLaw", "pick", "(I)C"⟩ : MethodName) (head1 (Jvm.Cond.code (⟨"com/example/hermod/hermod/RecordKeysItemPinLaw", "pick", "(I)C"⟩ : MethodName) method_2_code 2 (some .char) :: ws) ({ frames := 0, cells := 0, slots := 0, locals := 0 } : Room)) (fun a U => a = #[(.int pb)] ∧ Z.Warmed39 U.vm ∧ U.heap = h0) (fun _ _ _ _ _ => True) (fun _ U o U' => ∃ v L, o = .returned v ∧ Qpick Z pb h0 n0 v U'.heap L ∧ FrameEnd U o U' L ({ frames := 0, cells := 0, slots := 0, locals := 0 } : Room).cells ({ frames := 0, cells := 0, slots := 0, locals := 0 } : Room).slots) := by
  have W := @own_wd Z a0 hw
  refine MetFree.of_bodySF (plainFor_of_name pn_1) hisR ?_
  intro p e s m args below meth c s₁ Bd hml0 hP hK
  obtain ⟨rfl, hZ, hh⟩ := hP
  have hx := Bd.exec
  have hby := Bd.bytes
  have hlk : meth.locks = false := BodyLoose.notSynchronized Bd
  have hml : c.maxLocals = 2 := hml0
  have hown : s.vm.findClass "com/example/hermod/hermod/RecordKeysItemPinLaw" = some m.cls := findClass_of_methodNamed Bd.named
  have hnm := (name_of_methodNamed Bd.named Bd.method).1
  have X0 : Stand p l e ({ frames := 0, cells := 0, slots := 0, locals := 0 } : Room) s m #[(.int pb)] below meth c s₁ [] 0 0 := Stand.of_body Bd
  have e0 : s₁.heap = h0 := by rw [← hh, Bd.state]; rfl
  have N0 := Fr.nil n0
  show Gl p.tables e below _ _
  refine Gl.pre (fun t k => castTop (ef_pick m pb) k) ?_
  refine Gl.gen (fun PP hPP => ?_)
  show Gl p.tables e below PP (s₁.setTop (mkF m 0 #[.val (.int pb), .unset] []))
  refine Y.iloadN X0 hx (hb hby d1_0) rfl ?_
  refine Gl.pre (fun _ k => X0.ldcInt hx hown (mvT hZ (W 4 rfl)) (g := (mkF m 1 #[.val (.int pb), .unset] [(.int pb)])) rfl (hb hby d1_1) _ k) ?_
  refine Y.iand X0 hx (hb hby d1_3) rfl ?_
  refine Y.istoreN X0 hx (hb hby d1_4) rfl (l' := #[.val (.int pb), .val (.int (pb &&& (65535 : Int32)))]) rfl ?_
  refine Y.iloadN X0 hx (hb hby d1_5) rfl ?_
  refine Gl.pre (fun _ k => X0.ldcInt hx hown (mvT hZ (W 5 rfl)) (g := (mkF m 6 #[.val (.int pb), .val (.int (pb &&& (65535 : Int32)))] [(.int (pb &&& (65535 : Int32)))])) rfl (hb hby d1_6) _ k) ?_
  by_cases hc1 : (pb &&& (65535 : Int32)) < (55296 : Int32)
  refine Y.icmpYes X0 hx (pc0 := 8) (pc' := 23) rfl (hb hby d1_8) rfl (tlt hc1).1 (by decide) (by decide) ?_
  refine Y.iloadN X0 hx (hb hby d1_23) rfl ?_
  refine Y.i2c X0 hx (hb hby d1_24) rfl ?_
  rw [hPP]
  refine own_finN (Q := (Qpick Z pb h0 n0)) X0 hx hlk Bd.returns (t := .char) (z' := ((pb &&& (65535 : Int32)).toUInt32.toUInt16.toUInt32.toInt32)) (by simp) (own_nci _) (hb hby d1_25) ?_ (by decide) (by decide)
  show Qpick Z pb h0 n0 _ s₁.heap _
  rw [e0]
  refine ⟨?_, N0, rfl⟩
  rw [own_pick, if_pos hc1]; rfl
  refine Y.icmpNo X0 hx (hb hby d1_8) rfl (flt hc1).1 ?_
  refine Y.iloadN X0 hx (hb hby d1_11) rfl ?_
  refine Gl.pre (fun _ k => X0.ldcInt hx hown (mvT hZ (W 127 rfl)) (g := (mkF m 12 #[.val (.int pb), .val (.int (pb &&& (65535 : Int32)))] [(.int (pb &&& (65535 : Int32)))])) rfl (hb hby d1_12) _ k) ?_
  by_cases hc2 : (57343 : Int32) < (pb &&& (65535 : Int32))
  refine Y.icmpYes X0 hx (pc0 := 14) (pc' := 23) rfl (hb hby d1_14) rfl (tlt hc2).2.2.1 (by decide) (by decide) ?_
  refine Y.iloadN X0 hx (hb hby d1_23) rfl ?_
  refine Y.i2c X0 hx (hb hby d1_24) rfl ?_
  rw [hPP]
  refine own_finN (Q := (Qpick Z pb h0 n0)) X0 hx hlk Bd.returns (t := .char) (z' := ((pb &&& (65535 : Int32)).toUInt32.toUInt16.toUInt32.toInt32)) (by simp) (own_nci _) (hb hby d1_25) ?_ (by decide) (by decide)
  show Qpick Z pb h0 n0 _ s₁.heap _
  rw [e0]
  refine ⟨?_, N0, rfl⟩
  rw [own_pick, if_neg hc1, if_pos hc2]; rfl
  refine Y.icmpNo X0 hx (hb hby d1_14) rfl (flt hc2).2.2.1 ?_
  refine Y.iloadN X0 hx (hb hby d1_17) rfl ?_
  refine Y.sipush X0 hx (hb hby d1_18) ?_
  refine Y.isub X0 hx (hb hby d1_21) rfl ?_
  refine Y.istoreN X0 hx (hb hby d1_22) rfl (l' := #[.val (.int pb), .val (.int ((pb &&& (65535 : Int32)) - (22528 : Int32)))]) rfl ?_
  refine Y.iloadN X0 hx (hb hby d1_23) rfl ?_
  refine Y.i2c X0 hx (hb hby d1_24) rfl ?_
  rw [hPP]
  refine own_finN (Q := (Qpick Z pb h0 n0)) X0 hx hlk Bd.returns (t := .char) (z' := (((pb &&& (65535 : Int32)) - (22528 : Int32)).toUInt32.toUInt16.toUInt32.toInt32)) (by simp) (own_nci _) (hb hby d1_25) ?_ (by decide) (by decide)
  show Qpick Z pb h0 n0 _ s₁.heap _
  rw [e0]
  refine ⟨?_, N0, rfl⟩
  rw [own_pick, if_neg hc1, if_neg hc2]; rfl
theorem d2_0 : decode method_3_code 0 = .ok (.iload_n 0, 1) := by decide +kernel
theorem d2_1 : decode method_3_code 1 = .ok (.ifCond .ne 7, 3) := by decide +kernel
theorem d2_4 : decode method_3_code 4 = .ok (.iconst 0, 1) := by decide +kernel
theorem d2_5 : decode method_3_code 5 = .ok (.newarray .char, 2) := by decide +kernel
theorem d2_7 : decode method_3_code 7 = .ok (.areturn, 1) := by decide +kernel
theorem d2_8 : decode method_3_code 8 = .ok (.iload_n 0, 1) := by decide +kernel
theorem d2_9 : decode method_3_code 9 = .ok (.iconst 1, 1) := by decide +kernel
theorem d2_10 : decode method_3_code 10 = .ok (.if_icmp .ne 11, 3) := by decide +kernel
theorem d2_13 : decode method_3_code 13 = .ok (.iconst 1, 1) := by decide +kernel
theorem d2_14 : decode method_3_code 14 = .ok (.newarray .char, 2) := by decide +kernel
theorem d2_16 : decode method_3_code 16 = .ok (.dup, 1) := by decide +kernel
theorem d2_17 : decode method_3_code 17 = .ok (.iconst 0, 1) := by decide +kernel
theorem d2_18 : decode method_3_code 18 = .ok (.iload_n 1, 1) := by decide +kernel
theorem d2_19 : decode method_3_code 19 = .ok (.castore, 1) := by decide +kernel
theorem d2_20 : decode method_3_code 20 = .ok (.areturn, 1) := by decide +kernel
theorem d2_21 : decode method_3_code 21 = .ok (.iconst 2, 1) := by decide +kernel
theorem d2_22 : decode method_3_code 22 = .ok (.newarray .char, 2) := by decide +kernel
theorem d2_24 : decode method_3_code 24 = .ok (.dup, 1) := by decide +kernel
theorem d2_25 : decode method_3_code 25 = .ok (.iconst 0, 1) := by decide +kernel
theorem d2_26 : decode method_3_code 26 = .ok (.iload_n 1, 1) := by decide +kernel
theorem d2_27 : decode method_3_code 27 = .ok (.castore, 1) := by decide +kernel
theorem d2_28 : decode method_3_code 28 = .ok (.dup, 1) := by decide +kernel
theorem d2_29 : decode method_3_code 29 = .ok (.iconst 1, 1) := by decide +kernel
theorem d2_30 : decode method_3_code 30 = .ok (.iload_n 2, 1) := by decide +kernel
theorem d2_31 : decode method_3_code 31 = .ok (.castore, 1) := by decide +kernel
theorem d2_32 : decode method_3_code 32 = .ok (.areturn, 1) := by decide +kernel
theorem pn_2 : plainName "com/example/hermod/hermod/RecordKeysItemPinLaw" = true := by first | (simp [plainName, overriddenIn]; done) | decide +kernel
theorem ef_chars (m : MethodId) (pk : Int32) (ca : Int32) (cb : Int32) : entryFrame m #[(.int pk), (.int ca), (.int cb)] 3 = mkF m 0 #[.val (.int pk), .val (.int ca), .val (.int cb)] [] := by first | (simp [entryFrame, mkF, argsToLocals, Value.category]; done) | rfl
def Qchars (Z : State) (pk : Int32) (ca : Int32) (cb : Int32) (h0 : Heap) (n0 : Nat) (v : Option Value) (h : Heap) (L : List Loc) : Prop := ∃ b : Addr, v = some (.ref b) ∧ Fr n0 L ∧ h0.size ≤ b ∧ Keep h0 h [] ∧ Bal Z h b .char (own_cs pk ca cb)
set_option maxRecDepth 65536 in
set_option maxHeartbeats 40000000 in
theorem rmchars (l : Launch) (Z : State) (a0 : Array Value) (hw : ∀ d ∈ tables_1, d.before a0 Z = true) (ws : List Jvm.Cond) (pk : Int32) (ca : Int32) (cb : Int32) (h0 : Heap) (n0 : Nat) (Z0 : n0 ≤ h0.size) (hra : 0 ≤ ca.toInt ∧ ca.toInt < 65536) (hrb : 0 ≤ cb.toInt ∧ cb.toInt < 65536) :
    MetFree l (⟨"com/example/hermod/hermod/RecordKeysItemPinLaw", "chars", "(ICC)[C"⟩ : MethodName) (head1 (Jvm.Cond.code (⟨"com/example/hermod/hermod/RecordKeysItemPinLaw", "chars", "(ICC)[C"⟩ : MethodName) method_3_code 3 (some (.array .char)) :: ws) ({ frames := 0, cells := 1, slots := 2, locals := 0 } : Room)) (fun a U => a = #[(.int pk), (.int ca), (.int cb)] ∧ Z.Warmed39 U.vm ∧ U.heap = h0) (fun _ _ _ _ _ => True) (fun _ U o U' => ∃ v L, o = .returned v ∧ Qchars Z pk ca cb h0 n0 v U'.heap L ∧ FrameEnd U o U' L ({ frames := 0, cells := 1, slots := 2, locals := 0 } : Room).cells ({ frames := 0, cells := 1, slots := 2, locals := 0 } : Room).slots) := by
  have W := @own_wd Z a0 hw
  refine MetFree.of_bodySF (plainFor_of_name pn_2) hisR ?_
  intro p e s m args below meth c s₁ Bd hml0 hP hK
  obtain ⟨rfl, hZ, hh⟩ := hP
  have hx := Bd.exec
  have hby := Bd.bytes
  have hlk : meth.locks = false := BodyLoose.notSynchronized Bd
  have hml : c.maxLocals = 3 := hml0
  have hown : s.vm.findClass "com/example/hermod/hermod/RecordKeysItemPinLaw" = some m.cls := findClass_of_methodNamed Bd.named
  have hnm := (name_of_methodNamed Bd.named Bd.method).1
  have X0 : Stand p l e ({ frames := 0, cells := 1, slots := 2, locals := 0 } : Room) s m #[(.int pk), (.int ca), (.int cb)] below meth c s₁ [] 0 0 := Stand.of_body Bd
  have e0 : s₁.heap = h0 := by rw [← hh, Bd.state]; rfl
  have N0 := Fr.nil n0
  show Gl p.tables e below _ _
  refine Gl.pre (fun t k => castTop (ef_chars m pk ca cb) k) ?_
  refine Gl.gen (fun PP hPP => ?_)
  have K0 : Keep h0 h0 [] := Keep.refl h0 _
  show Gl p.tables e below PP (s₁.setTop (mkF m 0 #[.val (.int pk), .val (.int ca), .val (.int cb)] []))
  refine Y.iloadN X0 hx (hb hby d2_0) rfl ?_
  by_cases hc1 : pk = (0 : Int32)
  refine Y.ifNo X0 hx (hb hby d2_1) rfl ((if0 _ _).trans (teq hc1).2) ?_
  refine Y.iconst X0 hx (hb hby d2_4) ?_
  obtain ⟨T2, h2, k2, X2, e2, E2, A2, st2⟩ := newP X0 hx hZ (W 12 rfl) e0 (g := (mkF m 5 #[.val (.int pk), .val (.int ca), .val (.int cb)] [(.int (0 : Int32))])) rfl (hb hby d2_5) rfl (by decide) (cap := 0) (by decide) (by decide) (by decide) (by decide)
  obtain ⟨b2, g2⟩ : ∃ z, z = h0.size := ⟨_, rfl⟩
  rw [← g2] at A2 st2
  refine Gl.pre (fun _ k => st2 _ k) ?_
  have g_b2 : n0 ≤ b2 := Nat.le_trans Z0 (Nat.le_of_eq g2.symm)
  have sz_b2 : h0.size ≤ b2 := Nat.le_trans K0.1 (Nat.le_of_eq g2.symm)
  have Z2 : n0 ≤ h2.size := Nat.le_trans Z0 E2.1
  have K2 := K0.ext E2
  have V_b2 : Bal Z h2 b2 .char [] := Bal.new (ty := .char) A2 (n := 0) (by decide) rfl
  rw [hPP]
  refine own_finA (Q := (Qchars Z pk ca cb h0 n0)) X2 hx hlk Bd.returns rfl rfl (hb hby d2_7) ?_ (by decide) (by decide)
  show Qchars Z pk ca cb h0 n0 _ T2.heap _
  rw [e2]
  refine ⟨b2, rfl, N0, sz_b2, K2, ?_⟩
  rw [← own_cs0 hc1]; exact V_b2
  refine Y.ifYes X0 hx (pc0 := 1) (pc' := 8) rfl (hb hby d2_1) rfl ((if0 _ _).trans (feq hc1).2) (by decide) (by decide) ?_
  refine Y.iloadN X0 hx (hb hby d2_8) rfl ?_
  refine Y.iconst X0 hx (hb hby d2_9) ?_
  by_cases hc3 : pk = (1 : Int32)
  refine Y.icmpNo X0 hx (hb hby d2_10) rfl (teq hc3).2 ?_
  refine Y.iconst X0 hx (hb hby d2_13) ?_
  obtain ⟨T4, h4, k4, X4, e4, E4, A4, st4⟩ := newP X0 hx hZ (W 12 rfl) e0 (g := (mkF m 14 #[.val (.int pk), .val (.int ca), .val (.int cb)] [(.int (1 : Int32))])) rfl (hb hby d2_14) rfl (by decide) (cap := 1) (by decide) (by decide) (by decide) (by decide)
  obtain ⟨b4, g4⟩ : ∃ z, z = h0.size := ⟨_, rfl⟩
  rw [← g4] at A4 st4
  refine Gl.pre (fun _ k => st4 _ k) ?_
  have g_b4 : n0 ≤ b4 := Nat.le_trans Z0 (Nat.le_of_eq g4.symm)
  have sz_b4 : h0.size ≤ b4 := Nat.le_trans K0.1 (Nat.le_of_eq g4.symm)
  have Z4 : n0 ≤ h4.size := Nat.le_trans Z0 E4.1
  have K4 := K0.ext E4
  have V_b4 : Bal Z h4 b4 .char [(0 : Int32)] := Bal.new (ty := .char) A4 (n := 1) (by decide) rfl
  refine Y.dup X4 hx (hb hby d2_16) rfl rfl ?_
  refine Y.iconst X4 hx (hb hby d2_17) ?_
  refine Y.iloadN X4 hx (hb hby d2_18) rfl ?_
  obtain ⟨T5, h5, X5, e5, W5, V5, st5⟩ := own_stC X4 hx hZ e4 V_b4 (j := (0 : Int32)) (i := 0) (by decide) (by decide) (Nat.lt_of_lt_of_eq (by decide : 0 < 1) rfl) (g := (mkF m 19 #[.val (.int pk), .val (.int ca), .val (.int cb)] [(.int ca), (.int (0 : Int32)), (.ref b4), (.ref b4)])) rfl rfl (hb hby d2_19)
  refine Gl.pre (fun _ k => st5 _ k) ?_
  have Z5 : n0 ≤ h5.size := by rw [W5.size]; exact Z4
  have N5 := Fr.snoc X5 N0 g_b4
  have K5 := K4.wr W5 (Or.inr sz_b4)
  have V_b4 : Bal Z h5 b4 .char [(nar .char ca)] := V5
  rw [hPP]
  refine own_finA (Q := (Qchars Z pk ca cb h0 n0)) X5 hx hlk Bd.returns rfl rfl (hb hby d2_20) ?_ (by decide) (by decide)
  show Qchars Z pk ca cb h0 n0 _ T5.heap _
  rw [e5]
  refine ⟨b4, rfl, N5, sz_b4, K5, ?_⟩
  rw [own_chr ca hra.1 hra.2] at V_b4
  rw [← own_cs1 hc1 hc3]; exact V_b4
  refine Y.icmpYes X0 hx (pc0 := 10) (pc' := 21) rfl (hb hby d2_10) rfl (feq hc3).2 (by decide) (by decide) ?_
  refine Y.iconst X0 hx (hb hby d2_21) ?_
  obtain ⟨T6, h6, k6, X6, e6, E6, A6, st6⟩ := newP X0 hx hZ (W 12 rfl) e0 (g := (mkF m 22 #[.val (.int pk), .val (.int ca), .val (.int cb)] [(.int (2 : Int32))])) rfl (hb hby d2_22) rfl (by decide) (cap := 2) (by decide) (by decide) (by decide) (by decide)
  obtain ⟨b6, g6⟩ : ∃ z, z = h0.size := ⟨_, rfl⟩
  rw [← g6] at A6 st6
  refine Gl.pre (fun _ k => st6 _ k) ?_
  have g_b6 : n0 ≤ b6 := Nat.le_trans Z0 (Nat.le_of_eq g6.symm)
  have sz_b6 : h0.size ≤ b6 := Nat.le_trans K0.1 (Nat.le_of_eq g6.symm)
  have Z6 : n0 ≤ h6.size := Nat.le_trans Z0 E6.1
  have K6 := K0.ext E6
  have V_b6 : Bal Z h6 b6 .char [(0 : Int32), (0 : Int32)] := Bal.new (ty := .char) A6 (n := 2) (by decide) rfl
  refine Y.dup X6 hx (hb hby d2_24) rfl rfl ?_
  refine Y.iconst X6 hx (hb hby d2_25) ?_
  refine Y.iloadN X6 hx (hb hby d2_26) rfl ?_
  obtain ⟨T7, h7, X7, e7, W7, V7, st7⟩ := own_stC X6 hx hZ e6 V_b6 (j := (0 : Int32)) (i := 0) (by decide) (by decide) (Nat.lt_of_lt_of_eq (by decide : 0 < 2) rfl) (g := (mkF m 27 #[.val (.int pk), .val (.int ca), .val (.int cb)] [(.int ca), (.int (0 : Int32)), (.ref b6), (.ref b6)])) rfl rfl (hb hby d2_27)
  refine Gl.pre (fun _ k => st7 _ k) ?_
  have Z7 : n0 ≤ h7.size := by rw [W7.size]; exact Z6
  have N7 := Fr.snoc X7 N0 g_b6
  have K7 := K6.wr W7 (Or.inr sz_b6)
  have V_b6 : Bal Z h7 b6 .char [(nar .char ca), (0 : Int32)] := V7
  refine Y.dup X7 hx (hb hby d2_28) rfl rfl ?_
  refine Y.iconst X7 hx (hb hby d2_29) ?_
  refine Y.iloadN X7 hx (hb hby d2_30) rfl ?_
  obtain ⟨T8, h8, X8, e8, W8, V8, st8⟩ := own_stC X7 hx hZ e7 V_b6 (j := (1 : Int32)) (i := 1) (by decide) (by decide) (Nat.lt_of_lt_of_eq (by decide : 1 < 2) rfl) (g := (mkF m 31 #[.val (.int pk), .val (.int ca), .val (.int cb)] [(.int cb), (.int (1 : Int32)), (.ref b6), (.ref b6)])) rfl rfl (hb hby d2_31)
  refine Gl.pre (fun _ k => st8 _ k) ?_
  have Z8 : n0 ≤ h8.size := by rw [W8.size]; exact Z7
  have N8 := Fr.snoc X8 N7 g_b6
  have K8 := K7.wr W8 (Or.inr sz_b6)
  have V_b6 : Bal Z h8 b6 .char [(nar .char ca), (nar .char cb)] := V8
  rw [hPP]
  refine own_finA (Q := (Qchars Z pk ca cb h0 n0)) X8 hx hlk Bd.returns rfl rfl (hb hby d2_32) ?_ (by decide) (by decide)
  show Qchars Z pk ca cb h0 n0 _ T8.heap _
  rw [e8]
  refine ⟨b6, rfl, N8, sz_b6, K8, ?_⟩
  rw [own_chr ca hra.1 hra.2, own_chr cb hrb.1 hrb.2] at V_b6
  rw [← own_cs2 hc1 hc3]; exact V_b6
theorem d17_0 : decode prog_2_method_4_code 0 = .ok (.aload_n 0, 1) := by decide +kernel
theorem d17_1 : decode prog_2_method_4_code 1 = .ok (.iconst 1, 1) := by decide +kernel
theorem d17_2 : decode prog_2_method_4_code 2 = .ok (.aload_n 1, 1) := by decide +kernel
theorem d17_3 : decode prog_2_method_4_code 3 = .ok (.invokestatic 13, 3) := by decide +kernel
theorem d17_6 : decode prog_2_method_4_code 6 = .ok (.areturn, 1) := by decide +kernel
theorem pn_17 : plainName "com/example/hermod/hermod/RecordKeys" = true := by first | (simp [plainName, overriddenIn]; done) | decide +kernel
theorem ef_item4 (m : MethodId) (a1 : Addr) (a3 : Addr) (ss : List Int32) (ut : Addr) (co : Int32) (a2 : Addr) (xs : List Int32) (ys : List Int32) (cs : Int32) : entryFrame m #[(.ref a1), (.ref a3)] 2 = mkF m 0 #[.val (.ref a1), .val (.ref a3)] [] := by first | (simp [entryFrame, mkF, argsToLocals, Value.category]; done) | rfl
def Qitem4 (Z : State) (a1 : Addr) (a3 : Addr) (ss : List Int32) (ut : Addr) (co : Int32) (a2 : Addr) (xs : List Int32) (ys : List Int32) (cs : Int32) (h0 : Heap) (n0 : Nat) (v : Option Value) (h : Heap) (L : List Loc) : Prop := ∃ b : Addr, v = some (.ref b) ∧ Fr n0 L ∧ h0.size ≤ b ∧ Keep h0 h [] ∧ Bal Z h b .byte (own_u xs ++ (nar .byte (1 : Int32)) :: ss)
set_option maxRecDepth 65536 in
set_option maxHeartbeats 40000000 in
theorem rmitem4 (l : Launch) (Z : State) (a0 : Array Value) (hw : ∀ d ∈ tables_1, d.before a0 Z = true) (ws : List Jvm.Cond) (a1 : Addr) (a3 : Addr) (ss : List Int32) (ut : Addr) (co : Int32) (a2 : Addr) (xs : List Int32) (ys : List Int32) (cs : Int32) (h0 : Heap) (n0 : Nat) (Z0 : n0 ≤ h0.size) (E_a1 : Exa Z h0 a1 "java/lang/String") (F_value_a1 : Fld Z h0 a1 "java/lang/String" "value" "[B" (.ref a2)) (F_coder_a1 : Fld Z h0 a1 "java/lang/String" "coder" "B" (.int co)) (V_a2 : Bal Z h0 a2 .byte ys) (E_a2 : Exa Z h0 a2 "[B") (hrep : own_rep xs co ys) (hsd : ∀ c ∈ xs, c < (55296 : Int32) ∨ ¬ (c < (57344 : Int32))) (hsh : own_sh xs) (V_a3 : Bal Z h0 a3 .byte ss) (hfs : own_fit ss) (hls : ss.length ≤ 6) (SUT : Sta Z Z.heap "java/nio/charset/StandardCharsets" "UTF_8" "Ljava/nio/charset/Charset;" (.ref ut)) (SIN : Sta Z Z.heap "sun/nio/cs/UTF_8" "INSTANCE" "Lsun/nio/cs/UTF_8;" (.ref ut)) (SBC : Sta Z Z.heap "java/lang/String" "COMPACT_STRINGS" "Z" (.int cs)) (hcs : ¬ (cs = (0 : Int32))) (SAD : Sta Z Z.heap "java/lang/StringUTF16" "$assertionsDisabled" "Z" (.int (1 : Int32))) (SHI : Sta Z Z.heap "java/lang/StringUTF16" "HI_BYTE_SHIFT" "I" (.int (0 : Int32))) (SLO : Sta Z Z.heap "java/lang/StringUTF16" "LO_BYTE_SHIFT" "I" (.int (8 : Int32))) (O_ : Old Z n0 h0) :
    MetFree l (⟨"com/example/hermod/hermod/RecordKeys", "item", "(Ljava/lang/String;[B)[B"⟩ : MethodName) (head1 (Jvm.Cond.code (⟨"com/example/hermod/hermod/RecordKeys", "item", "(Ljava/lang/String;[B)[B"⟩ : MethodName) prog_2_method_4_code 2 (some (.array .byte)) :: ws) ({ frames := 7, cells := 3, slots := 24, locals := 115 } : Room)) (fun a U => a = #[(.ref a1), (.ref a3)] ∧ Z.Warmed39 U.vm ∧ U.heap = h0) (fun _ _ _ _ _ => True) (fun _ U o U' => ∃ v L, o = .returned v ∧ Qitem4 Z a1 a3 ss ut co a2 xs ys cs h0 n0 v U'.heap L ∧ FrameEnd U o U' L ({ frames := 7, cells := 3, slots := 24, locals := 115 } : Room).cells ({ frames := 7, cells := 3, slots := 24, locals := 115 } : Room).slots) := by
  have W := @own_wd Z a0 hw
  refine MetFree.of_bodySF (plainFor_of_name pn_17) hisR ?_
  intro p e s m args below meth c s₁ Bd hml0 hP hK
  obtain ⟨rfl, hZ, hh⟩ := hP
  have hx := Bd.exec
  have hby := Bd.bytes
  have hlk : meth.locks = false := BodyLoose.notSynchronized Bd
  have hml : c.maxLocals = 2 := hml0
  have hown : s.vm.findClass "com/example/hermod/hermod/RecordKeys" = some m.cls := findClass_of_methodNamed Bd.named
  have hnm := (name_of_methodNamed Bd.named Bd.method).1
  have X0 : Stand p l e ({ frames := 7, cells := 3, slots := 24, locals := 115 } : Room) s m #[(.ref a1), (.ref a3)] below meth c s₁ [] 0 0 := Stand.of_body Bd
  have e0 : s₁.heap = h0 := by rw [← hh, Bd.state]; rfl
  have N0 := Fr.nil n0
  show Gl p.tables e below _ _
  refine Gl.pre (fun t k => castTop (ef_item4 m a1 a3 ss ut co a2 xs ys cs) k) ?_
  refine Gl.gen (fun PP hPP => ?_)
  have K0 : Keep h0 h0 [] := Keep.refl h0 _
  show Gl p.tables e below PP (s₁.setTop (mkF m 0 #[.val (.ref a1), .val (.ref a3)] []))
  refine Y.aloadN X0 hx (hb hby d17_0) rfl rfl ?_
  refine Y.iconst X0 hx (hb hby d17_1) ?_
  refine Y.aloadN X0 hx (hb hby d17_2) rfl rfl ?_
  obtain ⟨_, _, ⟨T1, L1, k1, n1⟩, -, X1, ⟨Lc1, hQ1, l1, y1, z1⟩, st1⟩ := Jvm.LawKit.callS X0 hx (y := (⟨"com/example/hermod/hermod/RecordKeys", "withSeparator", "(Ljava/lang/String;B[B)[B"⟩ : MethodName)) hown (mvT hZ (W 88 rfl)) (mvT hZ (W 89 rfl)) (mvT hZ (W 47 rfl)) (mvT hZ (W 90 rfl)) (by decide) (backOf (W := 0) (rmws l Z a0 hw [] a1 (1 : Int32) a3 ss ut co a2 xs ys cs h0 n0 Z0 E_a1 F_value_a1 F_coder_a1 V_a2 E_a2 hrep hsd V_a3 hfs hls hsh SUT SIN SBC hcs SAD SHI SLO O_) hZ (W 90 rfl) (W 47 rfl) (by decide) (by decide)) (g := (mkF m 3 #[.val (.ref a1), .val (.ref a3)] [(.ref a3), (.int (1 : Int32)), (.ref a1)])) rfl (by rw [hml]; rfl) (argsL := [(.ref a1), (.int (1 : Int32)), (.ref a3)]) (rest := []) (lenOf pd_18 rfl) rfl (by show 2 * 0 + _ ≤ _; exact Nat.le_of_eq rfl) (hb hby d17_3) (fun _ _ => ⟨rfl, e0, (by decide : 0 + 3 ≤ _), (by decide : 0 + 24 ≤ _)⟩)
  dsimp only [Pt.U, Pt.locs, Pt.cells, Pt.slots] at X1 l1 y1 z1 st1 hQ1
  subst l1 y1 z1
  obtain ⟨bz1, rfl, N1q, hz1, K1, V1q⟩ := hQ1
  have N1 := Fr.app N0 N1q
  refine Gl.pre (fun _ k => st1 _ k) ?_
  have own_ne_a1_bz1 : a1 ≠ bz1 := Nat.ne_of_lt (Nat.lt_of_lt_of_le E_a1.lt hz1)
  have own_ne_bz1_a1 := own_ne_a1_bz1.symm
  have own_ne_a2_bz1 : a2 ≠ bz1 := Nat.ne_of_lt (Nat.lt_of_lt_of_le V_a2.lt hz1)
  have own_ne_bz1_a2 := own_ne_a2_bz1.symm
  have own_ne_a3_bz1 : a3 ≠ bz1 := Nat.ne_of_lt (Nat.lt_of_lt_of_le V_a3.lt hz1)
  have own_ne_bz1_a3 := own_ne_a3_bz1.symm
  have g_bz1 : n0 ≤ bz1 := Nat.le_trans Z0 hz1
  have sz_bz1 : h0.size ≤ bz1 := Nat.le_trans K0.1 hz1
  have E_a1 := E_a1.keep K1
  have F_value_a1 := F_value_a1.keep K1 nin0
  have F_coder_a1 := F_coder_a1.keep K1 nin0
  have V_a2 := V_a2.keep K1 nin0
  have E_a2 := E_a2.keep K1
  have V_a3 := V_a3.keep K1 nin0
  have O_ := O_.keep K1 all0
  have Z1 : n0 ≤ T1.heap.size := Nat.le_trans Z0 K1.1
  have K1k := K0.trans K1 all0
  have V_bz1 := V1q
  rw [hPP]
  refine own_finA (Q := (Qitem4 Z a1 a3 ss ut co a2 xs ys cs h0 n0)) X1 hx hlk Bd.returns rfl rfl (hb hby d17_6) ?_ (by decide) (by decide)
  show Qitem4 Z a1 a3 ss ut co a2 xs ys cs h0 n0 _ T1.heap _
  exact ⟨bz1, rfl, N1, sz_bz1, K1k, V_bz1⟩
theorem d10_0 : decode prog_2_method_3_code 0 = .ok (.aload_n 0, 1) := by decide +kernel
theorem d10_1 : decode prog_2_method_3_code 1 = .ok (.aload_n 1, 1) := by decide +kernel
theorem d10_2 : decode prog_2_method_3_code 2 = .ok (.getstatic 17, 3) := by decide +kernel
theorem d10_5 : decode prog_2_method_3_code 5 = .ok (.invokevirtual 23, 3) := by decide +kernel
theorem d10_8 : decode prog_2_method_3_code 8 = .ok (.invokestatic 29, 3) := by decide +kernel
theorem d10_11 : decode prog_2_method_3_code 11 = .ok (.areturn, 1) := by decide +kernel
theorem pn_10 : plainName "com/example/hermod/hermod/RecordKeys" = true := by first | (simp [plainName, overriddenIn]; done) | decide +kernel
theorem ef_item3 (m : MethodId) (a1 : Addr) (a5 : Addr) (ck : Int32) (a6 : Addr) (xk : List Int32) (yk : List Int32) (ut : Addr) (co : Int32) (a2 : Addr) (xs : List Int32) (ys : List Int32) (cs : Int32) : entryFrame m #[(.ref a1), (.ref a5)] 2 = mkF m 0 #[.val (.ref a1), .val (.ref a5)] [] := by first | (simp [entryFrame, mkF, argsToLocals, Value.category]; done) | rfl
def Qitem3 (Z : State) (a1 : Addr) (a5 : Addr) (ck : Int32) (a6 : Addr) (xk : List Int32) (yk : List Int32) (ut : Addr) (co : Int32) (a2 : Addr) (xs : List Int32) (ys : List Int32) (cs : Int32) (h0 : Heap) (n0 : Nat) (v : Option Value) (h : Heap) (L : List Loc) : Prop := ∃ b : Addr, v = some (.ref b) ∧ Fr n0 L ∧ h0.size ≤ b ∧ Keep h0 h [] ∧ Bal Z h b .byte (own_u xs ++ (nar .byte (1 : Int32)) :: own_u xk)
set_option maxRecDepth 65536 in
set_option maxHeartbeats 40000000 in
theorem rmitem3 (l : Launch) (Z : State) (a0 : Array Value) (hw : ∀ d ∈ tables_1, d.before a0 Z = true) (ws : List Jvm.Cond) (a1 : Addr) (a5 : Addr) (ck : Int32) (a6 : Addr) (xk : List Int32) (yk : List Int32) (ut : Addr) (co : Int32) (a2 : Addr) (xs : List Int32) (ys : List Int32) (cs : Int32) (h0 : Heap) (n0 : Nat) (Z0 : n0 ≤ h0.size) (E_a1 : Exa Z h0 a1 "java/lang/String") (F_value_a1 : Fld Z h0 a1 "java/lang/String" "value" "[B" (.ref a2)) (F_coder_a1 : Fld Z h0 a1 "java/lang/String" "coder" "B" (.int co)) (V_a2 : Bal Z h0 a2 .byte ys) (E_a2 : Exa Z h0 a2 "[B") (hrep : own_rep xs co ys) (hsd : ∀ c ∈ xs, c < (55296 : Int32) ∨ ¬ (c < (57344 : Int32))) (hsh : own_sh xs) (E_a5 : Exa Z h0 a5 "java/lang/String") (F_value_a5 : Fld Z h0 a5 "java/lang/String" "value" "[B" (.ref a6)) (F_coder_a5 : Fld Z h0 a5 "java/lang/String" "coder" "B" (.int ck)) (V_a6 : Bal Z h0 a6 .byte yk) (E_a6 : Exa Z h0 a6 "[B") (hrepk : own_rep xk ck yk) (hsdk : ∀ c ∈ xk, c < (55296 : Int32) ∨ ¬ (c < (57344 : Int32))) (hshk : own_sh xk) (SUT : Sta Z Z.heap "java/nio/charset/StandardCharsets" "UTF_8" "Ljava/nio/charset/Charset;" (.ref ut)) (SIN : Sta Z Z.heap "sun/nio/cs/UTF_8" "INSTANCE" "Lsun/nio/cs/UTF_8;" (.ref ut)) (SBC : Sta Z Z.heap "java/lang/String" "COMPACT_STRINGS" "Z" (.int cs)) (hcs : ¬ (cs = (0 : Int32))) (SAD : Sta Z Z.heap "java/lang/StringUTF16" "$assertionsDisabled" "Z" (.int (1 : Int32))) (SHI : Sta Z Z.heap "java/lang/StringUTF16" "HI_BYTE_SHIFT" "I" (.int (0 : Int32))) (SLO : Sta Z Z.heap "java/lang/StringUTF16" "LO_BYTE_SHIFT" "I" (.int (8 : Int32))) (O_ : Old Z n0 h0) :
    MetFree l (⟨"com/example/hermod/hermod/RecordKeys", "item", "(Ljava/lang/String;Ljava/lang/String;)[B"⟩ : MethodName) (head1 (Jvm.Cond.code (⟨"com/example/hermod/hermod/RecordKeys", "item", "(Ljava/lang/String;Ljava/lang/String;)[B"⟩ : MethodName) prog_2_method_3_code 2 (some (.array .byte)) :: ws) ({ frames := 8, cells := 5, slots := 35, locals := 128 } : Room)) (fun a U => a = #[(.ref a1), (.ref a5)] ∧ Z.Warmed39 U.vm ∧ U.heap = h0) (fun _ _ _ _ _ => True) (fun _ U o U' => ∃ v L, o = .returned v ∧ Qitem3 Z a1 a5 ck a6 xk yk ut co a2 xs ys cs h0 n0 v U'.heap L ∧ FrameEnd U o U' L ({ frames := 8, cells := 5, slots := 35, locals := 128 } : Room).cells ({ frames := 8, cells := 5, slots := 35, locals := 128 } : Room).slots) := by
  have W := @own_wd Z a0 hw
  refine MetFree.of_bodySF (plainFor_of_name pn_10) hisR ?_
  intro p e s m args below meth c s₁ Bd hml0 hP hK
  obtain ⟨rfl, hZ, hh⟩ := hP
  have hx := Bd.exec
  have hby := Bd.bytes
  have hlk : meth.locks = false := BodyLoose.notSynchronized Bd
  have hml : c.maxLocals = 2 := hml0
  have hown : s.vm.findClass "com/example/hermod/hermod/RecordKeys" = some m.cls := findClass_of_methodNamed Bd.named
  have hnm := (name_of_methodNamed Bd.named Bd.method).1
  have X0 : Stand p l e ({ frames := 8, cells := 5, slots := 35, locals := 128 } : Room) s m #[(.ref a1), (.ref a5)] below meth c s₁ [] 0 0 := Stand.of_body Bd
  have e0 : s₁.heap = h0 := by rw [← hh, Bd.state]; rfl
  have N0 := Fr.nil n0
  show Gl p.tables e below _ _
  refine Gl.pre (fun t k => castTop (ef_item3 m a1 a5 ck a6 xk yk ut co a2 xs ys cs) k) ?_
  refine Gl.gen (fun PP hPP => ?_)
  have K0 : Keep h0 h0 [] := Keep.refl h0 _
  show Gl p.tables e below PP (s₁.setTop (mkF m 0 #[.val (.ref a1), .val (.ref a5)] []))
  refine Y.aloadN X0 hx (hb hby d10_0) rfl rfl ?_
  refine Y.aloadN X0 hx (hb hby d10_1) rfl rfl ?_
  obtain ⟨T1, X1, e1, st1⟩ := getS2 X0 hx hZ hown (host := "") (Or.inl (W 49 rfl)) Via.refl e0 (SUT.ext O_.2) (g := (mkF m 2 #[.val (.ref a1), .val (.ref a5)] [(.ref a5), (.ref a1)])) rfl (hb hby d10_2)
  refine Gl.pre (fun _ k => st1 _ k) ?_
  obtain ⟨cq2, kq2, qa2, qb2, qc2⟩ := isOf hZ e1 E_a5
  obtain ⟨_, _, ⟨T2, L2, k2, n2⟩, -, X2, ⟨Lc2, hQ2, l2, y2, z2⟩, st2⟩ := X1.virtualBack hx (y := (⟨"java/lang/String", "getBytes", "(Ljava/nio/charset/Charset;)[B"⟩ : MethodName)) (z := (⟨"java/lang/String", "getBytes", "(Ljava/nio/charset/Charset;)[B"⟩ : MethodName)) hown (mvT hZ (W 51 rfl)) (mvT hZ (W 52 rfl)) (notFace_of_selects (args := #[]) (mvT hZ (W 54 rfl))) (mvT hZ (W 54 rfl)) (mvT hZ (W 53 rfl)) (by decide) (backOf (W := 1) (rmgb l Z a0 hw [] a5 ut ck a6 xk yk cs h0 n0 Z0 E_a5 F_value_a5 F_coder_a5 V_a6 E_a6 hrepk hsdk SIN SBC hcs SAD SHI SLO O_) hZ (W 55 rfl) (W 8 rfl) (by decide) (by decide)) qa2 qc2 (g := (mkF m 5 #[.val (.ref a1), .val (.ref a5)] [(.ref ut), (.ref a5), (.ref a1)])) rfl (by rw [hml]; rfl) (Steps.refl _) (argsL := [(.ref ut)]) (rest := [(.ref a1)]) (lenOf pd_17 rfl) rfl (by show 2 * 0 + _ ≤ _; exact Nat.le_of_eq rfl) (hb hby d10_5) (fun _ _ => ⟨rfl, e1, (by decide : 0 + 2 ≤ _), (by decide : 0 + 11 ≤ _)⟩)
  dsimp only [Pt.U, Pt.locs, Pt.cells, Pt.slots] at X2 l2 y2 z2 st2 hQ2
  subst l2 y2 z2
  obtain ⟨bx2, rfl, N2q, hz2, K2, V2q⟩ := hQ2
  have N2 := Fr.app N0 N2q
  refine Gl.pre (fun _ k => st2.trans k) ?_
  have own_ne_a1_bx2 : a1 ≠ bx2 := Nat.ne_of_lt (Nat.lt_of_lt_of_le E_a1.lt hz2)
  have own_ne_bx2_a1 := own_ne_a1_bx2.symm
  have own_ne_a2_bx2 : a2 ≠ bx2 := Nat.ne_of_lt (Nat.lt_of_lt_of_le V_a2.lt hz2)
  have own_ne_bx2_a2 := own_ne_a2_bx2.symm
  have own_ne_a5_bx2 : a5 ≠ bx2 := Nat.ne_of_lt (Nat.lt_of_lt_of_le E_a5.lt hz2)
  have own_ne_bx2_a5 := own_ne_a5_bx2.symm
  have own_ne_a6_bx2 : a6 ≠ bx2 := Nat.ne_of_lt (Nat.lt_of_lt_of_le V_a6.lt hz2)
  have own_ne_bx2_a6 := own_ne_a6_bx2.symm
  have g_bx2 : n0 ≤ bx2 := Nat.le_trans Z0 hz2
  have sz_bx2 : h0.size ≤ bx2 := Nat.le_trans K0.1 hz2
  have E_a1 := E_a1.keep K2
  have F_value_a1 := F_value_a1.keep K2 nin0
  have F_coder_a1 := F_coder_a1.keep K2 nin0
  have V_a2 := V_a2.keep K2 nin0
  have E_a2 := E_a2.keep K2
  have E_a5 := E_a5.keep K2
  have F_value_a5 := F_value_a5.keep K2 nin0
  have F_coder_a5 := F_coder_a5.keep K2 nin0
  have V_a6 := V_a6.keep K2 nin0
  have E_a6 := E_a6.keep K2
  have O_ := O_.keep K2 all0
  have Z2 : n0 ≤ T2.heap.size := Nat.le_trans Z0 K2.1
  have K2k := K0.trans K2 all0
  have V_bx2 := V2q
  obtain ⟨_, _, ⟨T3, L3, k3, n3⟩, -, X3, ⟨Lc3, hQ3, l3, y3, z3⟩, st3⟩ := Jvm.LawKit.callS X2 hx (y := (⟨"com/example/hermod/hermod/RecordKeys", "item", "(Ljava/lang/String;[B)[B"⟩ : MethodName)) hown (mvT hZ (W 85 rfl)) (mvT hZ (W 86 rfl)) (mvT hZ (W 47 rfl)) (mvT hZ (W 87 rfl)) (by decide) (backOf (W := 0) (rmitem4 l Z a0 hw [] a1 bx2 (own_u xk) ut co a2 xs ys cs T2.heap n0 Z2 E_a1 F_value_a1 F_coder_a1 V_a2 E_a2 hrep hsd hsh V_bx2 (own_uf _) (own_ul (own_shl hshk)) SUT SIN SBC hcs SAD SHI SLO O_) hZ (W 87 rfl) (W 47 rfl) (by decide) (by decide)) (g := (mkF m 8 #[.val (.ref a1), .val (.ref a5)] [(.ref bx2), (.ref a1)])) rfl (by rw [hml]; rfl) (argsL := [(.ref a1), (.ref bx2)]) (rest := []) (lenOf pd_19 rfl) rfl (by show 2 * 0 + _ ≤ _; exact Nat.le_of_eq rfl) (hb hby d10_8) (fun _ _ => ⟨rfl, rfl, (by decide : 2 + 3 ≤ _), (by decide : 11 + 24 ≤ _)⟩)
  dsimp only [Pt.U, Pt.locs, Pt.cells, Pt.slots] at X3 l3 y3 z3 st3 hQ3
  subst l3 y3 z3
  obtain ⟨bq3, rfl, N3q, hz3, K3, V3q⟩ := hQ3
  have N3 := Fr.app N2 N3q
  refine Gl.pre (fun _ k => st3 _ k) ?_
  have own_ne_a1_bq3 : a1 ≠ bq3 := Nat.ne_of_lt (Nat.lt_of_lt_of_le E_a1.lt hz3)
  have own_ne_bq3_a1 := own_ne_a1_bq3.symm
  have own_ne_a2_bq3 : a2 ≠ bq3 := Nat.ne_of_lt (Nat.lt_of_lt_of_le V_a2.lt hz3)
  have own_ne_bq3_a2 := own_ne_a2_bq3.symm
  have own_ne_a5_bq3 : a5 ≠ bq3 := Nat.ne_of_lt (Nat.lt_of_lt_of_le E_a5.lt hz3)
  have own_ne_bq3_a5 := own_ne_a5_bq3.symm
  have own_ne_a6_bq3 : a6 ≠ bq3 := Nat.ne_of_lt (Nat.lt_of_lt_of_le V_a6.lt hz3)
  have own_ne_bq3_a6 := own_ne_a6_bq3.symm
  have own_ne_bx2_bq3 : bx2 ≠ bq3 := Nat.ne_of_lt (Nat.lt_of_lt_of_le V_bx2.lt hz3)
  have own_ne_bq3_bx2 := own_ne_bx2_bq3.symm
  have g_bq3 : n0 ≤ bq3 := Nat.le_trans Z2 hz3
  have sz_bq3 : h0.size ≤ bq3 := Nat.le_trans K2k.1 hz3
  have E_a1 := E_a1.keep K3
  have F_value_a1 := F_value_a1.keep K3 nin0
  have F_coder_a1 := F_coder_a1.keep K3 nin0
  have V_a2 := V_a2.keep K3 nin0
  have E_a2 := E_a2.keep K3
  have E_a5 := E_a5.keep K3
  have F_value_a5 := F_value_a5.keep K3 nin0
  have F_coder_a5 := F_coder_a5.keep K3 nin0
  have V_a6 := V_a6.keep K3 nin0
  have E_a6 := E_a6.keep K3
  have O_ := O_.keep K3 all0
  have V_bx2 := V_bx2.keep K3 nin0
  have Z3 : n0 ≤ T3.heap.size := Nat.le_trans Z2 K3.1
  have K3k := K2k.trans K3 all0
  have V_bq3 := V3q
  rw [hPP]
  refine own_finA (Q := (Qitem3 Z a1 a5 ck a6 xk yk ut co a2 xs ys cs h0 n0)) X3 hx hlk Bd.returns rfl rfl (hb hby d10_11) ?_ (by decide) (by decide)
  show Qitem3 Z a1 a5 ck a6 xk yk ut co a2 xs ys cs h0 n0 _ T3.heap _
  exact ⟨bq3, rfl, N3, sz_bq3, K3k, V_bq3⟩
theorem pn_0 : plainName "com/example/hermod/hermod/RecordKeysItemPinLaw" = true := by first | (simp [plainName, overriddenIn]; done) | decide +kernel
theorem ef_0 (m : MethodId) (p1 : Int32) (p2 : Int32) (p3 : Int32) (cs : Int32) (ut : Addr) : entryFrame m #[(.int p1), (.int p2), (.int p3)] maxLocals = mkF m 0 #[.val (.int p1), .val (.int p2), .val (.int p3), .unset, .unset, .unset, .unset, .unset, .unset, .unset, .unset, .unset, .unset, .unset] [] := by first | (simp [entryFrame, mkF, argsToLocals, Value.category, maxLocals]; done) | rfl
def Q0 (Z : State) (p1 : Int32) (p2 : Int32) (p3 : Int32) (cs : Int32) (ut : Addr) (h0 : Heap) (n0 : Nat) (v : Option Value) (h : Heap) (L : List Loc) : Prop := v = some (.int (1 : Int32)) ∧ Fr n0 L
set_option maxRecDepth 65536 in
set_option maxHeartbeats 40000000 in
theorem rm0 (l : Launch) (Z : State) (a0 : Array Value) (hw : ∀ d ∈ tables_1, d.before a0 Z = true) (ws : List Jvm.Cond) (p1 : Int32) (p2 : Int32) (p3 : Int32) (cs : Int32) (ut : Addr) (h0 : Heap) (n0 : Nat) (Z0 : n0 ≤ h0.size) (SUT : Sta Z Z.heap "java/nio/charset/StandardCharsets" "UTF_8" "Ljava/nio/charset/Charset;" (.ref ut)) (SIN : Sta Z Z.heap "sun/nio/cs/UTF_8" "INSTANCE" "Lsun/nio/cs/UTF_8;" (.ref ut)) (SBC : Sta Z Z.heap "java/lang/String" "COMPACT_STRINGS" "Z" (.int cs)) (hcs : ¬ (cs = (0 : Int32))) (SAD : Sta Z Z.heap "java/lang/StringUTF16" "$assertionsDisabled" "Z" (.int (1 : Int32))) (SHI : Sta Z Z.heap "java/lang/StringUTF16" "HI_BYTE_SHIFT" "I" (.int (0 : Int32))) (SLO : Sta Z Z.heap "java/lang/StringUTF16" "LO_BYTE_SHIFT" "I" (.int (8 : Int32))) (O_ : Old Z n0 h0) (hEL : EW Z a0 own_EL) :
    MetFree l x (head1 (Jvm.Cond.code x code maxLocals ret :: ws) room_1) (fun a U => a = #[(.int p1), (.int p2), (.int p3)] ∧ Z.Warmed39 U.vm ∧ U.heap = h0 ∧ CHv Z own_EL U.vm h0 ∧ ∀ x ∈ ([] : List Addr), Safe Z own_EL U.vm h0 x) (fun _ _ _ _ _ => True) (fun _ U o U' => ∃ v L, o = .returned v ∧ Q0 Z p1 p2 p3 cs ut h0 n0 v U'.heap L ∧ CHr Z own_EL U.vm U.heap U'.vm U'.heap ∧ ReturnedEndW U o U' L room_1.cells room_1.slots) := by
  have W := @own_wd Z a0 hw
  refine MetFree.of_bodySF (plainFor_of_name pn_0) hisR ?_
  intro p e s m args below meth c s₁ Bd hml0 hP hK
  obtain ⟨rfl, hZ, hh, hCH, hSL⟩ := hP
  have hx := Bd.exec
  have hby := Bd.bytes
  have hlk : meth.locks = false := BodyLoose.notSynchronized Bd
  have hml : c.maxLocals = 14 := hml0
  have hown : s.vm.findClass "com/example/hermod/hermod/RecordKeysItemPinLaw" = some m.cls := findClass_of_methodNamed Bd.named
  have hnm := (name_of_methodNamed Bd.named Bd.method).1
  have X0 : Stand p l e room_1 (s.setVm s.vm) m #[(.int p1), (.int p2), (.int p3)] below meth c s₁ [] 0 0 := Stand.of_body Bd
  have hZ0 : Z.Warmed39 (s.setVm s.vm).vm := hZ
  have hown0 : (s.setVm s.vm).vm.findClass "com/example/hermod/hermod/RecordKeysItemPinLaw" = some m.cls := hown
  have hS0 : s.Since s.vm h0.size := (State.WarmedH.refl s).since _
  have hk0 : h0.size ≤ h0.size := Nat.le_refl _
  have CR0 : CHr Z own_EL s.vm h0 s.vm h0 := CHr.refl hCH
  have e0 : s₁.heap = h0 := by rw [← hh, Bd.state]; rfl
  have N0 := Fr.nil n0
  show Gl p.tables e below _ _
  refine Gl.pre (fun t k => castTop (ef_0 m p1 p2 p3 cs ut) k) ?_
  refine Gl.gen (fun PP hPP => ?_)
  show Gl p.tables e below PP (s₁.setTop (mkF m 0 #[.val (.int p1), .val (.int p2), .val (.int p3), .unset, .unset, .unset, .unset, .unset, .unset, .unset, .unset, .unset, .unset, .unset] []))
  refine Y.iloadN X0 hx (hb hby at_0) rfl ?_
  refine Y.sipush X0 hx (hb hby at_1) ?_
  refine Y.iand X0 hx (hb hby at_4) rfl ?_
  refine Y.iconst X0 hx (hb hby at_5) ?_
  refine Gl.pre (fun _ k => iremM X0 hx rfl (hb hby at_6) rfl (by decide) k) ?_
  obtain ⟨nlv, hnlv⟩ : ∃ z : Int32, z = ((p3 &&& (255 : Int32)) % (3 : Int32)) := ⟨_, rfl⟩
  show Gl p.tables e below PP (s₁.setTop (mkF m 7 #[.val (.int p1), .val (.int p2), .val (.int p3), .unset, .unset, .unset, .unset, .unset, .unset, .unset, .unset, .unset, .unset, .unset] [(.int ((p3 &&& (255 : Int32)) % (3 : Int32)))]))
  rw [← hnlv]
  have hnl : nlv = 0 ∨ nlv = 1 ∨ nlv = 2 := by rw [hnlv]; exact own_3 _
  show Gl p.tables e below PP (s₁.setTop (mkF m 7 #[.val (.int p1), .val (.int p2), .val (.int p3), .unset, .unset, .unset, .unset, .unset, .unset, .unset, .unset, .unset, .unset, .unset] [(.int nlv)]))
  refine Y.istoreN X0 hx (hb hby at_7) rfl (l' := #[.val (.int p1), .val (.int p2), .val (.int p3), .val (.int nlv), .unset, .unset, .unset, .unset, .unset, .unset, .unset, .unset, .unset, .unset]) rfl ?_
  refine Y.iloadN X0 hx (hb hby at_8) rfl ?_
  refine Y.bipush X0 hx (hb hby at_9) ?_
  refine Y.iushr X0 hx (hb hby at_11) rfl ?_
  refine Y.sipush X0 hx (hb hby at_12) ?_
  refine Y.iand X0 hx (hb hby at_15) rfl ?_
  refine Y.iconst X0 hx (hb hby at_16) ?_
  refine Gl.pre (fun _ k => iremM X0 hx rfl (hb hby at_17) rfl (by decide) k) ?_
  obtain ⟨klv, hklv⟩ : ∃ z : Int32, z = (((own_ushr p3 (8 : Int32)) &&& (255 : Int32)) % (3 : Int32)) := ⟨_, rfl⟩
  show Gl p.tables e below PP (s₁.setTop (mkF m 18 #[.val (.int p1), .val (.int p2), .val (.int p3), .val (.int nlv), .unset, .unset, .unset, .unset, .unset, .unset, .unset, .unset, .unset, .unset] [(.int (((own_ushr p3 (8 : Int32)) &&& (255 : Int32)) % (3 : Int32)))]))
  rw [← hklv]
  have hkl : klv = 0 ∨ klv = 1 ∨ klv = 2 := by rw [hklv]; exact own_3 _
  show Gl p.tables e below PP (s₁.setTop (mkF m 18 #[.val (.int p1), .val (.int p2), .val (.int p3), .val (.int nlv), .unset, .unset, .unset, .unset, .unset, .unset, .unset, .unset, .unset, .unset] [(.int klv)]))
  refine Y.istore X0 hx (hb hby at_18) rfl (l' := #[.val (.int p1), .val (.int p2), .val (.int p3), .val (.int nlv), .val (.int klv), .unset, .unset, .unset, .unset, .unset, .unset, .unset, .unset, .unset]) rfl ?_
  refine Y.iloadN X0 hx (hb hby at_20) rfl ?_
  obtain ⟨_, _, ⟨T1, L1, k1, n1⟩, -, X1, ⟨Lc1, hQ1, l1, y1, z1⟩, st1⟩ := Jvm.LawKit.callS X0 hx (y := (⟨"com/example/hermod/hermod/RecordKeysItemPinLaw", "pick", "(I)C"⟩ : MethodName)) hown0 (mvT hZ0 (W 0 rfl)) (mvT hZ0 (W 1 rfl)) (mvT hZ0 (W 2 rfl)) (mvT hZ0 (W 3 rfl)) (by decide) (backOf (W := 0) (rmpick l Z a0 hw [] p1 h0 n0 Z0 ) hZ0 (W 3 rfl) (W 2 rfl) (by decide) (by decide)) (g := (mkF m 21 #[.val (.int p1), .val (.int p2), .val (.int p3), .val (.int nlv), .val (.int klv), .unset, .unset, .unset, .unset, .unset, .unset, .unset, .unset, .unset] [(.int p1)])) rfl (by rw [hml]; rfl) (argsL := [(.int p1)]) (rest := []) (lenOf pd_20 rfl) rfl (by show 2 * 0 + _ ≤ _; exact Nat.le_of_eq rfl) (hb hby at_21) (fun _ _ => ⟨rfl, e0, (by decide : 0 + 0 ≤ _), (by decide : 0 + 0 ≤ _)⟩)
  dsimp only [Pt.U, Pt.locs, Pt.cells, Pt.slots] at X1 l1 y1 z1 st1 hQ1
  subst l1 y1 z1
  obtain ⟨rfl, N1q, e1⟩ := hQ1
  have N1 := Fr.app N0 N1q
  refine Gl.pre (fun _ k => st1 _ k) ?_
  obtain ⟨cA, hcA⟩ : ∃ z : Int32, z = (own_pick p1) := ⟨_, rfl⟩
  show Gl p.tables e below PP (T1.setTop (mkF m 24 #[.val (.int p1), .val (.int p2), .val (.int p3), .val (.int nlv), .val (.int klv), .unset, .unset, .unset, .unset, .unset, .unset, .unset, .unset, .unset] [(.int (own_pick p1))]))
  rw [← hcA]
  have hrcA : 0 ≤ cA.toInt ∧ cA.toInt < 65536 := by rw [hcA]; exact (own_pickr _).1
  have hncA : cA < (55296 : Int32) ∨ ¬ (cA < (57344 : Int32)) := by rw [hcA]; exact (own_pickr _).2
  show Gl p.tables e below PP (T1.setTop (mkF m 24 #[.val (.int p1), .val (.int p2), .val (.int p3), .val (.int nlv), .val (.int klv), .unset, .unset, .unset, .unset, .unset, .unset, .unset, .unset, .unset] [(.int cA)]))
  refine Y.istore X1 hx (hb hby at_24) rfl (l' := #[.val (.int p1), .val (.int p2), .val (.int p3), .val (.int nlv), .val (.int klv), .val (.int cA), .unset, .unset, .unset, .unset, .unset, .unset, .unset, .unset]) rfl ?_
  refine Y.iloadN X1 hx (hb hby at_26) rfl ?_
  refine Y.bipush X1 hx (hb hby at_27) ?_
  refine Y.iushr X1 hx (hb hby at_29) rfl ?_
  obtain ⟨_, _, ⟨T2, L2, k2, n2⟩, -, X2, ⟨Lc2, hQ2, l2, y2, z2⟩, st2⟩ := Jvm.LawKit.callS X1 hx (y := (⟨"com/example/hermod/hermod/RecordKeysItemPinLaw", "pick", "(I)C"⟩ : MethodName)) hown0 (mvT hZ0 (W 0 rfl)) (mvT hZ0 (W 1 rfl)) (mvT hZ0 (W 2 rfl)) (mvT hZ0 (W 3 rfl)) (by decide) (backOf (W := 0) (rmpick l Z a0 hw [] (own_ushr p1 (16 : Int32)) h0 n0 Z0 ) hZ0 (W 3 rfl) (W 2 rfl) (by decide) (by decide)) (g := (mkF m 30 #[.val (.int p1), .val (.int p2), .val (.int p3), .val (.int nlv), .val (.int klv), .val (.int cA), .unset, .unset, .unset, .unset, .unset, .unset, .unset, .unset] [(.int (own_ushr p1 (16 : Int32)))])) rfl (by rw [hml]; rfl) (argsL := [(.int (own_ushr p1 (16 : Int32)))]) (rest := []) (lenOf pd_20 rfl) rfl (by show 2 * 0 + _ ≤ _; exact Nat.le_of_eq rfl) (hb hby at_30) (fun _ _ => ⟨rfl, e1, (by decide : 0 + 0 ≤ _), (by decide : 0 + 0 ≤ _)⟩)
  dsimp only [Pt.U, Pt.locs, Pt.cells, Pt.slots] at X2 l2 y2 z2 st2 hQ2
  subst l2 y2 z2
  obtain ⟨rfl, N2q, e2⟩ := hQ2
  have N2 := Fr.app N1 N2q
  refine Gl.pre (fun _ k => st2 _ k) ?_
  obtain ⟨cB, hcB⟩ : ∃ z : Int32, z = (own_pick (own_ushr p1 (16 : Int32))) := ⟨_, rfl⟩
  show Gl p.tables e below PP (T2.setTop (mkF m 33 #[.val (.int p1), .val (.int p2), .val (.int p3), .val (.int nlv), .val (.int klv), .val (.int cA), .unset, .unset, .unset, .unset, .unset, .unset, .unset, .unset] [(.int (own_pick (own_ushr p1 (16 : Int32))))]))
  rw [← hcB]
  have hrcB : 0 ≤ cB.toInt ∧ cB.toInt < 65536 := by rw [hcB]; exact (own_pickr _).1
  have hncB : cB < (55296 : Int32) ∨ ¬ (cB < (57344 : Int32)) := by rw [hcB]; exact (own_pickr _).2
  show Gl p.tables e below PP (T2.setTop (mkF m 33 #[.val (.int p1), .val (.int p2), .val (.int p3), .val (.int nlv), .val (.int klv), .val (.int cA), .unset, .unset, .unset, .unset, .unset, .unset, .unset, .unset] [(.int cB)]))
  refine Y.istore X2 hx (hb hby at_33) rfl (l' := #[.val (.int p1), .val (.int p2), .val (.int p3), .val (.int nlv), .val (.int klv), .val (.int cA), .val (.int cB), .unset, .unset, .unset, .unset, .unset, .unset, .unset]) rfl ?_
  refine Y.iloadN X2 hx (hb hby at_35) rfl ?_
  obtain ⟨_, _, ⟨T3, L3, k3, n3⟩, -, X3, ⟨Lc3, hQ3, l3, y3, z3⟩, st3⟩ := Jvm.LawKit.callS X2 hx (y := (⟨"com/example/hermod/hermod/RecordKeysItemPinLaw", "pick", "(I)C"⟩ : MethodName)) hown0 (mvT hZ0 (W 0 rfl)) (mvT hZ0 (W 1 rfl)) (mvT hZ0 (W 2 rfl)) (mvT hZ0 (W 3 rfl)) (by decide) (backOf (W := 0) (rmpick l Z a0 hw [] p2 h0 n0 Z0 ) hZ0 (W 3 rfl) (W 2 rfl) (by decide) (by decide)) (g := (mkF m 36 #[.val (.int p1), .val (.int p2), .val (.int p3), .val (.int nlv), .val (.int klv), .val (.int cA), .val (.int cB), .unset, .unset, .unset, .unset, .unset, .unset, .unset] [(.int p2)])) rfl (by rw [hml]; rfl) (argsL := [(.int p2)]) (rest := []) (lenOf pd_20 rfl) rfl (by show 2 * 0 + _ ≤ _; exact Nat.le_of_eq rfl) (hb hby at_36) (fun _ _ => ⟨rfl, e2, (by decide : 0 + 0 ≤ _), (by decide : 0 + 0 ≤ _)⟩)
  dsimp only [Pt.U, Pt.locs, Pt.cells, Pt.slots] at X3 l3 y3 z3 st3 hQ3
  subst l3 y3 z3
  obtain ⟨rfl, N3q, e3⟩ := hQ3
  have N3 := Fr.app N2 N3q
  refine Gl.pre (fun _ k => st3 _ k) ?_
  obtain ⟨dA, hdA⟩ : ∃ z : Int32, z = (own_pick p2) := ⟨_, rfl⟩
  show Gl p.tables e below PP (T3.setTop (mkF m 39 #[.val (.int p1), .val (.int p2), .val (.int p3), .val (.int nlv), .val (.int klv), .val (.int cA), .val (.int cB), .unset, .unset, .unset, .unset, .unset, .unset, .unset] [(.int (own_pick p2))]))
  rw [← hdA]
  have hrdA : 0 ≤ dA.toInt ∧ dA.toInt < 65536 := by rw [hdA]; exact (own_pickr _).1
  have hndA : dA < (55296 : Int32) ∨ ¬ (dA < (57344 : Int32)) := by rw [hdA]; exact (own_pickr _).2
  show Gl p.tables e below PP (T3.setTop (mkF m 39 #[.val (.int p1), .val (.int p2), .val (.int p3), .val (.int nlv), .val (.int klv), .val (.int cA), .val (.int cB), .unset, .unset, .unset, .unset, .unset, .unset, .unset] [(.int dA)]))
  refine Y.istore X3 hx (hb hby at_39) rfl (l' := #[.val (.int p1), .val (.int p2), .val (.int p3), .val (.int nlv), .val (.int klv), .val (.int cA), .val (.int cB), .val (.int dA), .unset, .unset, .unset, .unset, .unset, .unset]) rfl ?_
  refine Y.iloadN X3 hx (hb hby at_41) rfl ?_
  refine Y.bipush X3 hx (hb hby at_42) ?_
  refine Y.iushr X3 hx (hb hby at_44) rfl ?_
  obtain ⟨_, _, ⟨T4, L4, k4, n4⟩, -, X4, ⟨Lc4, hQ4, l4, y4, z4⟩, st4⟩ := Jvm.LawKit.callS X3 hx (y := (⟨"com/example/hermod/hermod/RecordKeysItemPinLaw", "pick", "(I)C"⟩ : MethodName)) hown0 (mvT hZ0 (W 0 rfl)) (mvT hZ0 (W 1 rfl)) (mvT hZ0 (W 2 rfl)) (mvT hZ0 (W 3 rfl)) (by decide) (backOf (W := 0) (rmpick l Z a0 hw [] (own_ushr p2 (16 : Int32)) h0 n0 Z0 ) hZ0 (W 3 rfl) (W 2 rfl) (by decide) (by decide)) (g := (mkF m 45 #[.val (.int p1), .val (.int p2), .val (.int p3), .val (.int nlv), .val (.int klv), .val (.int cA), .val (.int cB), .val (.int dA), .unset, .unset, .unset, .unset, .unset, .unset] [(.int (own_ushr p2 (16 : Int32)))])) rfl (by rw [hml]; rfl) (argsL := [(.int (own_ushr p2 (16 : Int32)))]) (rest := []) (lenOf pd_20 rfl) rfl (by show 2 * 0 + _ ≤ _; exact Nat.le_of_eq rfl) (hb hby at_45) (fun _ _ => ⟨rfl, e3, (by decide : 0 + 0 ≤ _), (by decide : 0 + 0 ≤ _)⟩)
  dsimp only [Pt.U, Pt.locs, Pt.cells, Pt.slots] at X4 l4 y4 z4 st4 hQ4
  subst l4 y4 z4
  obtain ⟨rfl, N4q, e4⟩ := hQ4
  have N4 := Fr.app N3 N4q
  refine Gl.pre (fun _ k => st4 _ k) ?_
  obtain ⟨dB, hdB⟩ : ∃ z : Int32, z = (own_pick (own_ushr p2 (16 : Int32))) := ⟨_, rfl⟩
  show Gl p.tables e below PP (T4.setTop (mkF m 48 #[.val (.int p1), .val (.int p2), .val (.int p3), .val (.int nlv), .val (.int klv), .val (.int cA), .val (.int cB), .val (.int dA), .unset, .unset, .unset, .unset, .unset, .unset] [(.int (own_pick (own_ushr p2 (16 : Int32))))]))
  rw [← hdB]
  have hrdB : 0 ≤ dB.toInt ∧ dB.toInt < 65536 := by rw [hdB]; exact (own_pickr _).1
  have hndB : dB < (55296 : Int32) ∨ ¬ (dB < (57344 : Int32)) := by rw [hdB]; exact (own_pickr _).2
  show Gl p.tables e below PP (T4.setTop (mkF m 48 #[.val (.int p1), .val (.int p2), .val (.int p3), .val (.int nlv), .val (.int klv), .val (.int cA), .val (.int cB), .val (.int dA), .unset, .unset, .unset, .unset, .unset, .unset] [(.int dB)]))
  refine Y.istore X4 hx (hb hby at_48) rfl (l' := #[.val (.int p1), .val (.int p2), .val (.int p3), .val (.int nlv), .val (.int klv), .val (.int cA), .val (.int cB), .val (.int dA), .val (.int dB), .unset, .unset, .unset, .unset, .unset]) rfl ?_
  obtain ⟨T5, h5, X5, e5, E5, A5, D5, -, st5⟩ := newO X4 hx hZ0 hown0 (W 6 rfl) (W 7 rfl) (W 8 rfl) e4 (g := (mkF m 50 #[.val (.int p1), .val (.int p2), .val (.int p3), .val (.int nlv), .val (.int klv), .val (.int cA), .val (.int cB), .val (.int dA), .val (.int dB), .unset, .unset, .unset, .unset, .unset] [])) rfl (hb hby at_50) (by decide) (by decide)
  obtain ⟨b5, g5⟩ : ∃ z, z = h0.size := ⟨_, rfl⟩
  rw [← g5] at A5 D5 st5
  refine Gl.pre (fun _ k => st5 _ k) ?_
  have g_b5 : n0 ≤ b5 := Nat.le_trans Z0 (Nat.le_of_eq g5.symm)
  have Sf_b5 := Safe.ext E5 CR0.1 (Safe.new (Z := Z) (EL := own_EL) (vm := s.vm) (Nat.le_of_eq g5.symm))
  have CR5 := CR0.trans (CHr.ext E5 CR0.1)
  have O_ := O_.ext E5
  have Z5 : n0 ≤ h5.size := Nat.le_trans Z0 E5.1
  have hk5 := Nat.le_trans hk0 E5.1
  have E_b5 := A5
  have F_coder_b5 : Fld Z h5 b5 "java/lang/String" "coder" "B" (.int (0 : Int32)) := D5 (Or.inr (W 36 rfl)) (ty := .byte) (by decide)
  have F_value_b5 : Fld Z h5 b5 "java/lang/String" "value" "[B" .null := D5 (Or.inr (W 38 rfl)) (ty := (.array .byte)) (by decide)
  refine Y.dup X5 hx (hb hby at_53) rfl rfl ?_
  refine Y.iloadN X5 hx (hb hby at_54) rfl ?_
  refine Y.iload X5 hx (hb hby at_55) rfl ?_
  refine Y.iload X5 hx (hb hby at_57) rfl ?_
  obtain ⟨_, _, ⟨T6, L6, k6, n6⟩, -, X6, ⟨Lc6, hQ6, l6, y6, z6⟩, st6⟩ := Jvm.LawKit.callS X5 hx (y := (⟨"com/example/hermod/hermod/RecordKeysItemPinLaw", "chars", "(ICC)[C"⟩ : MethodName)) hown0 (mvT hZ0 (W 9 rfl)) (mvT hZ0 (W 10 rfl)) (mvT hZ0 (W 2 rfl)) (mvT hZ0 (W 11 rfl)) (by decide) (backOf (W := 2) (rmchars l Z a0 hw [] nlv cA cB h5 n0 Z5 hrcA hrcB) hZ0 (W 11 rfl) (W 2 rfl) (by decide) (by decide)) (g := (mkF m 59 #[.val (.int p1), .val (.int p2), .val (.int p3), .val (.int nlv), .val (.int klv), .val (.int cA), .val (.int cB), .val (.int dA), .val (.int dB), .unset, .unset, .unset, .unset, .unset] [(.int cB), (.int cA), (.int nlv), (.ref b5), (.ref b5)])) rfl (by rw [hml]; rfl) (argsL := [(.int nlv), (.int cA), (.int cB)]) (rest := [(.ref b5), (.ref b5)]) (lenOf pd_21 rfl) rfl (by show 2 * 0 + _ ≤ _; exact Nat.le_of_eq rfl) (hb hby at_59) (fun _ _ => ⟨rfl, e5, (by decide : 1 + 1 ≤ _), (by decide : 4 + 2 ≤ _)⟩)
  dsimp only [Pt.U, Pt.locs, Pt.cells, Pt.slots] at X6 l6 y6 z6 st6 hQ6
  subst l6 y6 z6
  obtain ⟨ac6, rfl, N6q, hz6, K6, V6q⟩ := hQ6
  have N6 := Fr.app N4 N6q
  refine Gl.pre (fun _ k => st6 _ k) ?_
  have own_ne_b5_ac6 : b5 ≠ ac6 := Nat.ne_of_lt (Nat.lt_of_lt_of_le E_b5.lt hz6)
  have own_ne_ac6_b5 := own_ne_b5_ac6.symm
  have g_ac6 : n0 ≤ ac6 := Nat.le_trans Z5 hz6
  have Sf_ac60 := Safe.new (Z := Z) (EL := own_EL) (vm := s.vm) hz6
  have Sf_b5 := Safe.keep K6 all0 CR5.1 Sf_b5
  have CR6 := CR5.trans (CHr.keep K6 all0 CR5.1)
  have O_ := O_.keep K6 all0
  have E_b5 := E_b5.keep K6
  have F_coder_b5 := F_coder_b5.keep K6 nin0
  have F_value_b5 := F_value_b5.keep K6 nin0
  have hk6 := Nat.le_trans hk5 K6.1
  have Z6 : n0 ≤ T6.heap.size := Nat.le_trans Z5 K6.1
  have V_ac6 := V6q
  obtain ⟨_, _, ⟨T7, L7, k7, n7⟩, -, X7, hS7c, hg7, ⟨Lc7, hQ7, l7, y7, z7, CR7c⟩, st7⟩ := X6.specialBackS hx (y := (⟨"java/lang/String", "<init>", "([C)V"⟩ : MethodName)) rfl hown0 (mvT hZ0 (W 13 rfl)) (mvT hZ0 (W 14 rfl)) (mvT hZ0 (W 15 rfl)) (by decide) (own_backH (W := 1) (rmsS l Z a0 hw [] b5 ac6 cs (own_cs nlv cA cB) T6.heap n0 Z6 E_b5 F_value_b5 F_coder_b5 g_b5 V_ac6 (own_csh hrcA hrcB) own_ne_b5_ac6 own_ne_ac6_b5 SBC hcs SAD SHI SLO O_ hEL) hZ0 (W 15 rfl) (W 8 rfl) (by decide) (by decide) hEL CR6.1 (allS ⟨E_b5.lt, Sf_b5⟩ all0)) (g := (mkF m 62 #[.val (.int p1), .val (.int p2), .val (.int p3), .val (.int nlv), .val (.int klv), .val (.int cA), .val (.int cB), .val (.int dA), .val (.int dB), .unset, .unset, .unset, .unset, .unset] [(.ref ac6), (.ref b5), (.ref b5)])) rfl (by rw [hml]; rfl) (Steps.refl _) (a := b5) (argsL := [(.ref ac6)]) (rest := [(.ref b5)]) (lenOf pd_22 rfl) rfl (by show 2 * 0 + _ ≤ _; exact Nat.le_of_eq rfl) (hb hby at_62) (fun _ _ => ⟨rfl, rfl, (by decide : 2 + 4 ≤ _), (by decide : 6 + 8 ≤ _)⟩)
  dsimp only [Pt.U, Pt.locs, Pt.cells, Pt.slots] at X7 l7 y7 z7 st7 hQ7 hS7c hg7 CR7c
  subst l7 y7 z7
  have X7 : Stand p l e room_1 (s.setVm T7.vm) m #[(.int p1), (.int p2), (.int p3)] below meth c T7 _ _ _ := X7
  have hS7 := foldS hS0 hk6 hS7c hg7
  have hZ7 : Z.Warmed39 (s.setVm T7.vm).vm := State.Warmed39.trans (t := s.setVm s.vm) hZ0 hS7c.1
  have hown7 : (s.setVm T7.vm).vm.findClass "com/example/hermod/hermod/RecordKeysItemPinLaw" = some m.cls := by rw [show (s.setVm T7.vm).vm = T7.vm from rfl, hS7c.1.alike.findClass]; exact hown0
  have Sf_b5 := CR7c.safe E_b5.lt Sf_b5
  have CR7 := CR6.trans CR7c
  obtain ⟨rfl, N7q, K7, vb7, ys7, co7, hrp7, Fv7, Fc7, Vs7, Es7⟩ := hQ7
  have N7 := Fr.app N6 N7q
  refine Gl.pre (fun _ k => st7.trans k) ?_
  have O_ := O_.keep K7 (allS g_b5 all0)
  have E_b5 := E_b5.keep K7
  have V_ac6 := V_ac6.keep K7 (ninS (own_ne_ac6_b5) nin0)
  have Z7 : n0 ≤ T7.heap.size := Nat.le_trans Z6 K7.1
  have F_value_b5 := Fv7
  have F_coder_b5 := Fc7
  have V_vb7 := Vs7
  have E_vb7 := Es7
  refine Y.astore X7 hx (hb hby at_65) rfl rfl (l' := #[.val (.int p1), .val (.int p2), .val (.int p3), .val (.int nlv), .val (.int klv), .val (.int cA), .val (.int cB), .val (.int dA), .val (.int dB), .val (.ref b5), .unset, .unset, .unset, .unset]) rfl ?_
  obtain ⟨T8, h8, X8, e8, E8, A8, D8, -, st8⟩ := newO X7 hx hZ7 hown7 (W 6 rfl) (W 7 rfl) (W 8 rfl) rfl (g := (mkF m 67 #[.val (.int p1), .val (.int p2), .val (.int p3), .val (.int nlv), .val (.int klv), .val (.int cA), .val (.int cB), .val (.int dA), .val (.int dB), .val (.ref b5), .unset, .unset, .unset, .unset] [])) rfl (hb hby at_67) (by decide) (by decide)
  obtain ⟨b8, g8⟩ : ∃ z, z = T7.heap.size := ⟨_, rfl⟩
  rw [← g8] at A8 D8 st8
  refine Gl.pre (fun _ k => st8 _ k) ?_
  have own_ne_b5_b8 : b5 ≠ b8 := by have q := E_b5.lt; rw [g8]; exact Nat.ne_of_lt q
  have own_ne_b8_b5 : b8 ≠ b5 := own_ne_b5_b8.symm
  have own_ne_ac6_b8 : ac6 ≠ b8 := by have q := V_ac6.lt; rw [g8]; exact Nat.ne_of_lt q
  have own_ne_b8_ac6 : b8 ≠ ac6 := own_ne_ac6_b8.symm
  have own_ne_vb7_b8 : vb7 ≠ b8 := by have q := V_vb7.lt; rw [g8]; exact Nat.ne_of_lt q
  have own_ne_b8_vb7 : b8 ≠ vb7 := own_ne_vb7_b8.symm
  have g_b8 : n0 ≤ b8 := Nat.le_trans Z7 (Nat.le_of_eq g8.symm)
  have Sf_b8 := Safe.ext E8 CR7.1 (Safe.new (Z := Z) (EL := own_EL) (vm := T7.vm) (Nat.le_of_eq g8.symm))
  have Sf_b5 := Safe.ext E8 CR7.1 Sf_b5
  have CR8 := CR7.trans (CHr.ext E8 CR7.1)
  have O_ := O_.ext E8
  have E_b5 := E_b5.ext E8
  have V_ac6 := V_ac6.ext E8
  have F_value_b5 := F_value_b5.ext E8
  have F_coder_b5 := F_coder_b5.ext E8
  have V_vb7 := V_vb7.ext E8
  have E_vb7 := E_vb7.ext E8
  have Z8 : n0 ≤ h8.size := Nat.le_trans Z7 E8.1
  have hk8 := Nat.le_trans (Nat.le_refl _) E8.1
  have E_b8 := A8
  have F_coder_b8 : Fld Z h8 b8 "java/lang/String" "coder" "B" (.int (0 : Int32)) := D8 (Or.inr (W 36 rfl)) (ty := .byte) (by decide)
  have F_value_b8 : Fld Z h8 b8 "java/lang/String" "value" "[B" .null := D8 (Or.inr (W 38 rfl)) (ty := (.array .byte)) (by decide)
  refine Y.dup X8 hx (hb hby at_70) rfl rfl ?_
  refine Y.iload X8 hx (hb hby at_71) rfl ?_
  refine Y.iload X8 hx (hb hby at_73) rfl ?_
  refine Y.iload X8 hx (hb hby at_75) rfl ?_
  obtain ⟨_, _, ⟨T9, L9, k9, n9⟩, -, X9, ⟨Lc9, hQ9, l9, y9, z9⟩, st9⟩ := Jvm.LawKit.callS X8 hx (y := (⟨"com/example/hermod/hermod/RecordKeysItemPinLaw", "chars", "(ICC)[C"⟩ : MethodName)) hown7 (mvT hZ7 (W 9 rfl)) (mvT hZ7 (W 10 rfl)) (mvT hZ7 (W 2 rfl)) (mvT hZ7 (W 11 rfl)) (by decide) (backOf (W := 2) (rmchars l Z a0 hw [] klv dA dB h8 n0 Z8 hrdA hrdB) hZ7 (W 11 rfl) (W 2 rfl) (by decide) (by decide)) (g := (mkF m 77 #[.val (.int p1), .val (.int p2), .val (.int p3), .val (.int nlv), .val (.int klv), .val (.int cA), .val (.int cB), .val (.int dA), .val (.int dB), .val (.ref b5), .unset, .unset, .unset, .unset] [(.int dB), (.int dA), (.int klv), (.ref b8), (.ref b8)])) rfl (by rw [hml]; rfl) (argsL := [(.int klv), (.int dA), (.int dB)]) (rest := [(.ref b8), (.ref b8)]) (lenOf pd_21 rfl) rfl (by show 2 * 0 + _ ≤ _; exact Nat.le_of_eq rfl) (hb hby at_77) (fun _ _ => ⟨rfl, e8, (by decide : 7 + 1 ≤ _), (by decide : 18 + 2 ≤ _)⟩)
  dsimp only [Pt.U, Pt.locs, Pt.cells, Pt.slots] at X9 l9 y9 z9 st9 hQ9
  subst l9 y9 z9
  obtain ⟨ac9, rfl, N9q, hz9, K9, V9q⟩ := hQ9
  have N9 := Fr.app N7 N9q
  refine Gl.pre (fun _ k => st9 _ k) ?_
  have own_ne_b5_ac9 : b5 ≠ ac9 := Nat.ne_of_lt (Nat.lt_of_lt_of_le E_b5.lt hz9)
  have own_ne_ac9_b5 := own_ne_b5_ac9.symm
  have own_ne_ac6_ac9 : ac6 ≠ ac9 := Nat.ne_of_lt (Nat.lt_of_lt_of_le V_ac6.lt hz9)
  have own_ne_ac9_ac6 := own_ne_ac6_ac9.symm
  have own_ne_vb7_ac9 : vb7 ≠ ac9 := Nat.ne_of_lt (Nat.lt_of_lt_of_le V_vb7.lt hz9)
  have own_ne_ac9_vb7 := own_ne_vb7_ac9.symm
  have own_ne_b8_ac9 : b8 ≠ ac9 := Nat.ne_of_lt (Nat.lt_of_lt_of_le E_b8.lt hz9)
  have own_ne_ac9_b8 := own_ne_b8_ac9.symm
  have g_ac9 : n0 ≤ ac9 := Nat.le_trans Z8 hz9
  have Sf_ac90 := Safe.new (Z := Z) (EL := own_EL) (vm := T7.vm) hz9
  have Sf_b5 := Safe.keep K9 all0 CR8.1 Sf_b5
  have Sf_b8 := Safe.keep K9 all0 CR8.1 Sf_b8
  have CR9 := CR8.trans (CHr.keep K9 all0 CR8.1)
  have O_ := O_.keep K9 all0
  have E_b5 := E_b5.keep K9
  have V_ac6 := V_ac6.keep K9 nin0
  have F_value_b5 := F_value_b5.keep K9 nin0
  have F_coder_b5 := F_coder_b5.keep K9 nin0
  have V_vb7 := V_vb7.keep K9 nin0
  have E_vb7 := E_vb7.keep K9
  have E_b8 := E_b8.keep K9
  have F_coder_b8 := F_coder_b8.keep K9 nin0
  have F_value_b8 := F_value_b8.keep K9 nin0
  have hk9 := Nat.le_trans hk8 K9.1
  have Z9 : n0 ≤ T9.heap.size := Nat.le_trans Z8 K9.1
  have V_ac9 := V9q
  obtain ⟨_, _, ⟨T10, L10, k10, n10⟩, -, X10, hS10c, hg10, ⟨Lc10, hQ10, l10, y10, z10, CR10c⟩, st10⟩ := X9.specialBackS hx (y := (⟨"java/lang/String", "<init>", "([C)V"⟩ : MethodName)) rfl hown7 (mvT hZ7 (W 13 rfl)) (mvT hZ7 (W 14 rfl)) (mvT hZ7 (W 15 rfl)) (by decide) (own_backH (W := 1) (rmsS l Z a0 hw [] b8 ac9 cs (own_cs klv dA dB) T9.heap n0 Z9 E_b8 F_value_b8 F_coder_b8 g_b8 V_ac9 (own_csh hrdA hrdB) own_ne_b8_ac9 own_ne_ac9_b8 SBC hcs SAD SHI SLO O_ hEL) hZ7 (W 15 rfl) (W 8 rfl) (by decide) (by decide) hEL CR9.1 (allS ⟨E_b8.lt, Sf_b8⟩ all0)) (g := (mkF m 80 #[.val (.int p1), .val (.int p2), .val (.int p3), .val (.int nlv), .val (.int klv), .val (.int cA), .val (.int cB), .val (.int dA), .val (.int dB), .val (.ref b5), .unset, .unset, .unset, .unset] [(.ref ac9), (.ref b8), (.ref b8)])) rfl (by rw [hml]; rfl) (Steps.refl _) (a := b8) (argsL := [(.ref ac9)]) (rest := [(.ref b8)]) (lenOf pd_22 rfl) rfl (by show 2 * 0 + _ ≤ _; exact Nat.le_of_eq rfl) (hb hby at_80) (fun _ _ => ⟨rfl, rfl, (by decide : 8 + 4 ≤ _), (by decide : 20 + 8 ≤ _)⟩)
  dsimp only [Pt.U, Pt.locs, Pt.cells, Pt.slots] at X10 l10 y10 z10 st10 hQ10 hS10c hg10 CR10c
  subst l10 y10 z10
  have X10 : Stand p l e room_1 (s.setVm T10.vm) m #[(.int p1), (.int p2), (.int p3)] below meth c T10 _ _ _ := X10
  have hS10 := foldS hS7 hk9 hS10c hg10
  have hZ10 : Z.Warmed39 (s.setVm T10.vm).vm := State.Warmed39.trans (t := s.setVm T7.vm) hZ7 hS10c.1
  have hown10 : (s.setVm T10.vm).vm.findClass "com/example/hermod/hermod/RecordKeysItemPinLaw" = some m.cls := by rw [show (s.setVm T10.vm).vm = T10.vm from rfl, hS10c.1.alike.findClass]; exact hown7
  have Sf_b5 := CR10c.safe E_b5.lt Sf_b5
  have Sf_b8 := CR10c.safe E_b8.lt Sf_b8
  have CR10 := CR9.trans CR10c
  obtain ⟨rfl, N10q, K10, vb10, ys10, co10, hrp10, Fv10, Fc10, Vs10, Es10⟩ := hQ10
  have N10 := Fr.app N9 N10q
  refine Gl.pre (fun _ k => st10.trans k) ?_
  have O_ := O_.keep K10 (allS g_b8 all0)
  have E_b5 := E_b5.keep K10
  have V_ac6 := V_ac6.keep K10 (ninS (own_ne_ac6_b8) nin0)
  have F_value_b5 := F_value_b5.keep K10 (ninS (own_ne_b5_b8) nin0)
  have F_coder_b5 := F_coder_b5.keep K10 (ninS (own_ne_b5_b8) nin0)
  have V_vb7 := V_vb7.keep K10 (ninS (own_ne_vb7_b8) nin0)
  have E_vb7 := E_vb7.keep K10
  have E_b8 := E_b8.keep K10
  have V_ac9 := V_ac9.keep K10 (ninS (own_ne_ac9_b8) nin0)
  have Z10 : n0 ≤ T10.heap.size := Nat.le_trans Z9 K10.1
  have F_value_b8 := Fv10
  have F_coder_b8 := Fc10
  have V_vb10 := Vs10
  have E_vb10 := Es10
  refine Y.astore X10 hx (hb hby at_83) rfl rfl (l' := #[.val (.int p1), .val (.int p2), .val (.int p3), .val (.int nlv), .val (.int klv), .val (.int cA), .val (.int cB), .val (.int dA), .val (.int dB), .val (.ref b5), .val (.ref b8), .unset, .unset, .unset]) rfl ?_
  refine Y.bipush X10 hx (hb hby at_85) ?_
  obtain ⟨T11, h11, k11, X11, e11, E11, A11, st11⟩ := newP X10 hx hZ10 (W 28 rfl) rfl (g := (mkF m 87 #[.val (.int p1), .val (.int p2), .val (.int p3), .val (.int nlv), .val (.int klv), .val (.int cA), .val (.int cB), .val (.int dA), .val (.int dB), .val (.ref b5), .val (.ref b8), .unset, .unset, .unset] [(.int (13 : Int32))])) rfl (hb hby at_87) rfl (by decide) (cap := 13) (by decide) (by decide) (by decide) (by decide)
  obtain ⟨b11, g11⟩ : ∃ z, z = T10.heap.size := ⟨_, rfl⟩
  rw [← g11] at A11 st11
  refine Gl.pre (fun _ k => st11 _ k) ?_
  have own_ne_b5_b11 : b5 ≠ b11 := by have q := E_b5.lt; rw [g11]; exact Nat.ne_of_lt q
  have own_ne_b11_b5 : b11 ≠ b5 := own_ne_b5_b11.symm
  have own_ne_ac6_b11 : ac6 ≠ b11 := by have q := V_ac6.lt; rw [g11]; exact Nat.ne_of_lt q
  have own_ne_b11_ac6 : b11 ≠ ac6 := own_ne_ac6_b11.symm
  have own_ne_vb7_b11 : vb7 ≠ b11 := by have q := V_vb7.lt; rw [g11]; exact Nat.ne_of_lt q
  have own_ne_b11_vb7 : b11 ≠ vb7 := own_ne_vb7_b11.symm
  have own_ne_b8_b11 : b8 ≠ b11 := by have q := E_b8.lt; rw [g11]; exact Nat.ne_of_lt q
  have own_ne_b11_b8 : b11 ≠ b8 := own_ne_b8_b11.symm
  have own_ne_ac9_b11 : ac9 ≠ b11 := by have q := V_ac9.lt; rw [g11]; exact Nat.ne_of_lt q
  have own_ne_b11_ac9 : b11 ≠ ac9 := own_ne_ac9_b11.symm
  have own_ne_vb10_b11 : vb10 ≠ b11 := by have q := V_vb10.lt; rw [g11]; exact Nat.ne_of_lt q
  have own_ne_b11_vb10 : b11 ≠ vb10 := own_ne_vb10_b11.symm
  have g_b11 : n0 ≤ b11 := Nat.le_trans Z10 (Nat.le_of_eq g11.symm)
  have Sf_b11 := Safe.ext E11 CR10.1 (Safe.new (Z := Z) (EL := own_EL) (vm := T10.vm) (Nat.le_of_eq g11.symm))
  have Sf_b5 := Safe.ext E11 CR10.1 Sf_b5
  have Sf_b8 := Safe.ext E11 CR10.1 Sf_b8
  have CR11 := CR10.trans (CHr.ext E11 CR10.1)
  have O_ := O_.ext E11
  have E_b5 := E_b5.ext E11
  have V_ac6 := V_ac6.ext E11
  have F_value_b5 := F_value_b5.ext E11
  have F_coder_b5 := F_coder_b5.ext E11
  have V_vb7 := V_vb7.ext E11
  have E_vb7 := E_vb7.ext E11
  have E_b8 := E_b8.ext E11
  have V_ac9 := V_ac9.ext E11
  have F_value_b8 := F_value_b8.ext E11
  have F_coder_b8 := F_coder_b8.ext E11
  have V_vb10 := V_vb10.ext E11
  have E_vb10 := E_vb10.ext E11
  have Z11 : n0 ≤ h11.size := Nat.le_trans Z10 E11.1
  have hk11 := Nat.le_trans (Nat.le_refl _) E11.1
  have V_b11 : Bal Z h11 b11 .byte [(0 : Int32), (0 : Int32), (0 : Int32), (0 : Int32), (0 : Int32), (0 : Int32), (0 : Int32), (0 : Int32), (0 : Int32), (0 : Int32), (0 : Int32), (0 : Int32), (0 : Int32)] := Bal.new (ty := .byte) A11 (n := 13) (by decide) rfl
  refine Y.astore X11 hx (hb hby at_89) rfl rfl (l' := #[.val (.int p1), .val (.int p2), .val (.int p3), .val (.int nlv), .val (.int klv), .val (.int cA), .val (.int cB), .val (.int dA), .val (.int dB), .val (.ref b5), .val (.ref b8), .val (.ref b11), .unset, .unset]) rfl ?_
  have V_b11 : Bal Z h11 b11 .byte (own_pad 13 []) := V_b11
  have hl0 : ([] : List Int32).length ≤ 0 := Nat.le_refl _
  refine Y.iconst X11 hx (hb hby at_91) ?_
  refine Y.istore X11 hx (hb hby at_92) rfl (l' := #[.val (.int p1), .val (.int p2), .val (.int p3), .val (.int nlv), .val (.int klv), .val (.int cA), .val (.int cB), .val (.int dA), .val (.int dB), .val (.ref b5), .val (.ref b8), .val (.ref b11), .val (.int (0 : Int32)), .unset]) rfl ?_
  show Gl p.tables e below PP (T11.setTop (mkF m 94 #[.val (.int p1), .val (.int p2), .val (.int p3), .val (.int nlv), .val (.int klv), .val (.int cA), .val (.int cB), .val (.int dA), .val (.int dB), .val (.ref b5), .val (.ref b8), .val (.ref b11), .val (.int (([] : List Int32).length.toInt32)), .unset] []))
  suffices J12 : ∀ (TJ12 : State) (hJ12 : Heap) (LJ12 : List Loc) (psj : List Int32), Stand p l e room_1 (s.setVm T10.vm) m #[(.int p1), (.int p2), (.int p3)] below meth c TJ12 LJ12 13 41 → TJ12.heap = hJ12 → Fr n0 LJ12 → Keep h11 hJ12 [b11] → Bal Z hJ12 b11 .byte (own_pad 13 psj) → psj = ([] : List Int32) ++ own_u (own_cs nlv cA cB) → Gl p.tables e below PP (TJ12.setTop (mkF m 126 #[.val (.int p1), .val (.int p2), .val (.int p3), .val (.int nlv), .val (.int klv), .val (.int cA), .val (.int cB), .val (.int dA), .val (.int dB), .val (.ref b5), .val (.ref b8), .val (.ref b11), .val (.int (psj.length.toInt32)), .unset] [])) by
   have KJ12 : Keep h11 h11 [b11] := Keep.refl _ _
   refine Y.iloadN X11 hx (hb hby at_94) rfl ?_
   refine Y.iconst X11 hx (hb hby at_95) ?_
   by_cases hc13 : nlv < (1 : Int32)
   refine Y.icmpYes X11 hx (pc0 := 96) (pc' := 110) rfl (hb hby at_96) rfl (tlt hc13).1 (by decide) (by decide) ?_
   refine Y.iloadN X11 hx (hb hby at_110) rfl ?_
   refine Y.iconst X11 hx (hb hby at_111) ?_
   refine Y.icmpYes X11 hx (pc0 := 112) (pc' := 126) rfl (hb hby at_112) rfl (tlt (show nlv < (2 : Int32) from (own_12 hc13))).1 (by decide) (by decide) ?_
   exact J12 _ _ _ ([] : List Int32) (X11.more (by decide) (by decide)) e11 N10 KJ12 V_b11 (own_appc (own_w0 hnl hc13) (by rw [List.append_nil]))
   refine Y.icmpNo X11 hx (hb hby at_96) rfl (flt hc13).1 ?_
   refine Y.aload X11 hx (hb hby at_99) rfl rfl ?_
   refine Y.iload X11 hx (hb hby at_101) rfl ?_
   refine Y.iload X11 hx (hb hby at_103) rfl ?_
   have hl14 : ((([] : List Int32) ++ own_u1 cA)).length ≤ 3 := by rw [List.length_append]; have := own_u1l cA; have := hl0; omega
   obtain ⟨_, _, ⟨T15, L15, k15, n15⟩, -, X15, ⟨Lc15, hQ15, l15, y15, z15⟩, st15⟩ := Jvm.LawKit.callS X11 hx (y := (⟨"com/example/hermod/hermod/RecordKeysItemPinLaw", "put", "([BIC)I"⟩ : MethodName)) hown10 (mvT hZ10 (W 42 rfl)) (mvT hZ10 (W 43 rfl)) (mvT hZ10 (W 2 rfl)) (mvT hZ10 (W 44 rfl)) (by decide) (backOf (W := 0) (rmput l Z a0 hw [] b11 (([] : List Int32).length.toInt32) cA ([] : List Int32) h11 n0 Z11 V_b11 rfl (by have := hl0; omega) g_b11) hZ10 (W 44 rfl) (W 2 rfl) (by decide) (by decide)) (g := (mkF m 105 #[.val (.int p1), .val (.int p2), .val (.int p3), .val (.int nlv), .val (.int klv), .val (.int cA), .val (.int cB), .val (.int dA), .val (.int dB), .val (.ref b5), .val (.ref b8), .val (.ref b11), .val (.int (([] : List Int32).length.toInt32)), .unset] [(.int cA), (.int (([] : List Int32).length.toInt32)), (.ref b11)])) rfl (by rw [hml]; rfl) (argsL := [(.ref b11), (.int (([] : List Int32).length.toInt32)), (.int cA)]) (rest := []) (lenOf pd_23 rfl) rfl (by show 2 * 0 + _ ≤ _; exact Nat.le_of_eq rfl) (hb hby at_105) (fun _ _ => ⟨rfl, e11, (by decide : 13 + 0 ≤ _), (by decide : 41 + 0 ≤ _)⟩)
   dsimp only [Pt.U, Pt.locs, Pt.cells, Pt.slots] at X15 l15 y15 z15 st15 hQ15
   subst l15 y15 z15
   obtain ⟨rfl, N15q, K15, V15q⟩ := hQ15
   have N15 := Fr.app N10 N15q
   refine Gl.pre (fun _ k => st15 _ k) ?_
   have hs15 : ∀ x ∈ [b11], Safe Z own_EL _ _ x := (allS Sf_b11 all0)
   have Sf_b5 := Safe.keep K15 hs15 CR11.1 Sf_b5
   have Sf_b8 := Safe.keep K15 hs15 CR11.1 Sf_b8
   have Sf_b11 := Safe.keep K15 hs15 CR11.1 Sf_b11
   have CR15 := CR11.trans (CHr.keep K15 hs15 CR11.1)
   have O_ := O_.keep K15 (allS g_b11 all0)
   have E_b5 := E_b5.keep K15
   have V_ac6 := V_ac6.keep K15 (ninS (own_ne_ac6_b11) nin0)
   have F_value_b5 := F_value_b5.keep K15 (ninS (own_ne_b5_b11) nin0)
   have F_coder_b5 := F_coder_b5.keep K15 (ninS (own_ne_b5_b11) nin0)
   have V_vb7 := V_vb7.keep K15 (ninS (own_ne_vb7_b11) nin0)
   have E_vb7 := E_vb7.keep K15
   have E_b8 := E_b8.keep K15
   have V_ac9 := V_ac9.keep K15 (ninS (own_ne_ac9_b11) nin0)
   have F_value_b8 := F_value_b8.keep K15 (ninS (own_ne_b8_b11) nin0)
   have F_coder_b8 := F_coder_b8.keep K15 (ninS (own_ne_b8_b11) nin0)
   have V_vb10 := V_vb10.keep K15 (ninS (own_ne_vb10_b11) nin0)
   have E_vb10 := E_vb10.keep K15
   have hk15 := Nat.le_trans hk11 K15.1
   have Z15 : n0 ≤ T15.heap.size := Nat.le_trans Z11 K15.1
   have K15k := KJ12.trans K15 (allS (Or.inl (List.mem_of_getElem? (i := 0) rfl)) all0)
   have V_b11 := V15q
   refine Y.istore X15 hx (hb hby at_108) rfl (l' := #[.val (.int p1), .val (.int p2), .val (.int p3), .val (.int nlv), .val (.int klv), .val (.int cA), .val (.int cB), .val (.int dA), .val (.int dB), .val (.ref b5), .val (.ref b8), .val (.ref b11), .val (.int ((([] : List Int32) ++ own_u1 cA).length.toInt32)), .unset]) rfl ?_
   refine Y.iloadN X15 hx (hb hby at_110) rfl ?_
   refine Y.iconst X15 hx (hb hby at_111) ?_
   by_cases hc16 : nlv < (2 : Int32)
   refine Y.icmpYes X15 hx (pc0 := 112) (pc' := 126) rfl (hb hby at_112) rfl (tlt hc16).1 (by decide) (by decide) ?_
   exact J12 _ _ _ (([] : List Int32) ++ own_u1 cA) (X15.more (by decide) (by decide)) rfl N15 K15k V_b11 (own_appc (own_w1 hnl hc13 hc16) rfl)
   refine Y.icmpNo X15 hx (hb hby at_112) rfl (flt hc16).1 ?_
   refine Y.aload X15 hx (hb hby at_115) rfl rfl ?_
   refine Y.iload X15 hx (hb hby at_117) rfl ?_
   refine Y.iload X15 hx (hb hby at_119) rfl ?_
   have hl17 : (((([] : List Int32) ++ own_u1 cA) ++ own_u1 cB)).length ≤ 6 := by rw [List.length_append]; have := own_u1l cB; have := hl14; omega
   obtain ⟨_, _, ⟨T18, L18, k18, n18⟩, -, X18, ⟨Lc18, hQ18, l18, y18, z18⟩, st18⟩ := Jvm.LawKit.callS X15 hx (y := (⟨"com/example/hermod/hermod/RecordKeysItemPinLaw", "put", "([BIC)I"⟩ : MethodName)) hown10 (mvT hZ10 (W 42 rfl)) (mvT hZ10 (W 43 rfl)) (mvT hZ10 (W 2 rfl)) (mvT hZ10 (W 44 rfl)) (by decide) (backOf (W := 0) (rmput l Z a0 hw [] b11 ((([] : List Int32) ++ own_u1 cA).length.toInt32) cB (([] : List Int32) ++ own_u1 cA) T15.heap n0 Z15 V_b11 rfl (by have := hl14; omega) g_b11) hZ10 (W 44 rfl) (W 2 rfl) (by decide) (by decide)) (g := (mkF m 121 #[.val (.int p1), .val (.int p2), .val (.int p3), .val (.int nlv), .val (.int klv), .val (.int cA), .val (.int cB), .val (.int dA), .val (.int dB), .val (.ref b5), .val (.ref b8), .val (.ref b11), .val (.int ((([] : List Int32) ++ own_u1 cA).length.toInt32)), .unset] [(.int cB), (.int ((([] : List Int32) ++ own_u1 cA).length.toInt32)), (.ref b11)])) rfl (by rw [hml]; rfl) (argsL := [(.ref b11), (.int ((([] : List Int32) ++ own_u1 cA).length.toInt32)), (.int cB)]) (rest := []) (lenOf pd_23 rfl) rfl (by show 2 * 0 + _ ≤ _; exact Nat.le_of_eq rfl) (hb hby at_121) (fun _ _ => ⟨rfl, rfl, (by decide : 13 + 0 ≤ _), (by decide : 41 + 0 ≤ _)⟩)
   dsimp only [Pt.U, Pt.locs, Pt.cells, Pt.slots] at X18 l18 y18 z18 st18 hQ18
   subst l18 y18 z18
   obtain ⟨rfl, N18q, K18, V18q⟩ := hQ18
   have N18 := Fr.app N15 N18q
   refine Gl.pre (fun _ k => st18 _ k) ?_
   have hs18 : ∀ x ∈ [b11], Safe Z own_EL _ _ x := (allS Sf_b11 all0)
   have Sf_b5 := Safe.keep K18 hs18 CR15.1 Sf_b5
   have Sf_b8 := Safe.keep K18 hs18 CR15.1 Sf_b8
   have Sf_b11 := Safe.keep K18 hs18 CR15.1 Sf_b11
   have CR18 := CR15.trans (CHr.keep K18 hs18 CR15.1)
   have O_ := O_.keep K18 (allS g_b11 all0)
   have E_b5 := E_b5.keep K18
   have V_ac6 := V_ac6.keep K18 (ninS (own_ne_ac6_b11) nin0)
   have F_value_b5 := F_value_b5.keep K18 (ninS (own_ne_b5_b11) nin0)
   have F_coder_b5 := F_coder_b5.keep K18 (ninS (own_ne_b5_b11) nin0)
   have V_vb7 := V_vb7.keep K18 (ninS (own_ne_vb7_b11) nin0)
   have E_vb7 := E_vb7.keep K18
   have E_b8 := E_b8.keep K18
   have V_ac9 := V_ac9.keep K18 (ninS (own_ne_ac9_b11) nin0)
   have F_value_b8 := F_value_b8.keep K18 (ninS (own_ne_b8_b11) nin0)
   have F_coder_b8 := F_coder_b8.keep K18 (ninS (own_ne_b8_b11) nin0)
   have V_vb10 := V_vb10.keep K18 (ninS (own_ne_vb10_b11) nin0)
   have E_vb10 := E_vb10.keep K18
   have hk18 := Nat.le_trans hk15 K18.1
   have Z18 : n0 ≤ T18.heap.size := Nat.le_trans Z15 K18.1
   have K18k := K15k.trans K18 (allS (Or.inl (List.mem_of_getElem? (i := 0) rfl)) all0)
   have V_b11 := V18q
   refine Y.istore X18 hx (hb hby at_124) rfl (l' := #[.val (.int p1), .val (.int p2), .val (.int p3), .val (.int nlv), .val (.int klv), .val (.int cA), .val (.int cB), .val (.int dA), .val (.int dB), .val (.ref b5), .val (.ref b8), .val (.ref b11), .val (.int (((([] : List Int32) ++ own_u1 cA) ++ own_u1 cB).length.toInt32)), .unset]) rfl ?_
   exact J12 _ _ _ ((([] : List Int32) ++ own_u1 cA) ++ own_u1 cB) (X18.more (by decide) (by decide)) rfl N18 K18k V_b11 (own_appc (own_w2 hnl hc13 hc16) (by rw [List.append_assoc]))
  intro TJ12 hJ12 LJ12 psj X12 e12 N12 K12 vpsj epsj
  have hs12 : ∀ x ∈ [b11], Safe Z own_EL _ _ x := (allS Sf_b11 all0)
  have Sf_b5 := Safe.keep K12 hs12 CR11.1 Sf_b5
  have Sf_b8 := Safe.keep K12 hs12 CR11.1 Sf_b8
  have Sf_b11 := Safe.keep K12 hs12 CR11.1 Sf_b11
  have CR12 := CR11.trans (CHr.keep K12 hs12 CR11.1)
  have O_ := O_.keep K12 (allS g_b11 all0)
  have E_b5 := E_b5.keep K12
  have V_ac6 := V_ac6.keep K12 (ninS (own_ne_ac6_b11) nin0)
  have F_value_b5 := F_value_b5.keep K12 (ninS (own_ne_b5_b11) nin0)
  have F_coder_b5 := F_coder_b5.keep K12 (ninS (own_ne_b5_b11) nin0)
  have V_vb7 := V_vb7.keep K12 (ninS (own_ne_vb7_b11) nin0)
  have E_vb7 := E_vb7.keep K12
  have E_b8 := E_b8.keep K12
  have V_ac9 := V_ac9.keep K12 (ninS (own_ne_ac9_b11) nin0)
  have F_value_b8 := F_value_b8.keep K12 (ninS (own_ne_b8_b11) nin0)
  have F_coder_b8 := F_coder_b8.keep K12 (ninS (own_ne_b8_b11) nin0)
  have V_vb10 := V_vb10.keep K12 (ninS (own_ne_vb10_b11) nin0)
  have E_vb10 := E_vb10.keep K12
  have hk12 := Nat.le_trans hk11 K12.1
  have Z12 : n0 ≤ hJ12.size := Nat.le_trans Z11 K12.1
  show Gl p.tables e below PP (TJ12.setTop (mkF m 126 #[.val (.int p1), .val (.int p2), .val (.int p3), .val (.int nlv), .val (.int klv), .val (.int cA), .val (.int cB), .val (.int dA), .val (.int dB), .val (.ref b5), .val (.ref b8), .val (.ref b11), .val (.int (psj.length.toInt32)), .unset] []))
  have hlpsj : psj.length ≤ 6 := by rw [epsj, List.length_append]; have := own_ul (own_csl nlv cA cB); have := hl0; omega
  have V_b11 := vpsj
  refine Y.aload X12 hx (hb hby at_126) rfl rfl ?_
  refine Y.iload X12 hx (hb hby at_128) rfl ?_
  refine Y.iconst X12 hx (hb hby at_130) ?_
  obtain ⟨T19, h19, X19, e19, W19, V19, st19⟩ := own_stB X12 hx hZ10 e12 V_b11 (j := (psj.length.toInt32)) (i := psj.length) (own_tn0 (by have := hlpsj; omega)) (own_tnn (by have := hlpsj; omega)) (by rw [own_padl (by have := hlpsj; omega)]; have := hlpsj; omega) (g := (mkF m 131 #[.val (.int p1), .val (.int p2), .val (.int p3), .val (.int nlv), .val (.int klv), .val (.int cA), .val (.int cB), .val (.int dA), .val (.int dB), .val (.ref b5), .val (.ref b8), .val (.ref b11), .val (.int (psj.length.toInt32)), .unset] [(.int (1 : Int32)), (.int (psj.length.toInt32)), (.ref b11)])) rfl rfl (hb hby at_131)
  refine Gl.pre (fun _ k => st19 _ k) ?_
  have Sf_b5 := Safe.wr W19 Sf_b11 CR12.1 Sf_b5
  have Sf_b8 := Safe.wr W19 Sf_b11 CR12.1 Sf_b8
  have CR19 := CR12.trans (CHr.wr W19 Sf_b11 CR12.1)
  have Sf_b11 := Safe.wr W19 Sf_b11 CR12.1 Sf_b11
  have O_ := O_.wr W19 g_b11
  have E_b5 := E_b5.wr W19
  have V_ac6 := V_ac6.other W19 (own_ne_ac6_b11)
  have F_value_b5 := F_value_b5.other W19 (Or.inl (own_ne_b5_b11))
  have F_coder_b5 := F_coder_b5.other W19 (Or.inl (own_ne_b5_b11))
  have V_vb7 := V_vb7.other W19 (own_ne_vb7_b11)
  have E_vb7 := E_vb7.wr W19
  have E_b8 := E_b8.wr W19
  have V_ac9 := V_ac9.other W19 (own_ne_ac9_b11)
  have F_value_b8 := F_value_b8.other W19 (Or.inl (own_ne_b8_b11))
  have F_coder_b8 := F_coder_b8.other W19 (Or.inl (own_ne_b8_b11))
  have V_vb10 := V_vb10.other W19 (own_ne_vb10_b11)
  have E_vb10 := E_vb10.wr W19
  have Z19 : n0 ≤ h19.size := by rw [W19.size]; exact Z12
  have hk19 := Nat.le_trans hk12 (Nat.le_of_eq W19.size.symm)
  have N19 := Fr.snoc X19 N12 g_b11
  have V_b11 := V19
  have V_b11 : Bal Z h19 b11 .byte (own_pad 13 (psj ++ [(nar .byte (1 : Int32))])) := by have q := V_b11; rw [own_pad1 (by have := hlpsj; omega)] at q; exact q
  have hl1s : ((psj ++ [(nar .byte (1 : Int32))])).length ≤ 7 := by rw [List.length_append, List.length_singleton]; have := hlpsj; omega
  refine Y.iload X19 hx (hb hby at_132) rfl ?_
  refine Y.iconst X19 hx (hb hby at_134) ?_
  refine Y.iadd X19 hx (hb hby at_135) rfl ?_
  show Gl p.tables e below PP (T19.setTop (mkF m 136 #[.val (.int p1), .val (.int p2), .val (.int p3), .val (.int nlv), .val (.int klv), .val (.int cA), .val (.int cB), .val (.int dA), .val (.int dB), .val (.ref b5), .val (.ref b8), .val (.ref b11), .val (.int (psj.length.toInt32)), .unset] [(.int ((psj.length.toInt32) + (1 : Int32)))]))
  rw [own_lenS (ps := psj) (v := (nar .byte (1 : Int32)))]
  show Gl p.tables e below PP (T19.setTop (mkF m 136 #[.val (.int p1), .val (.int p2), .val (.int p3), .val (.int nlv), .val (.int klv), .val (.int cA), .val (.int cB), .val (.int dA), .val (.int dB), .val (.ref b5), .val (.ref b8), .val (.ref b11), .val (.int (psj.length.toInt32)), .unset] [(.int ((psj ++ [(nar .byte (1 : Int32))]).length.toInt32))]))
  refine Y.istore X19 hx (hb hby at_136) rfl (l' := #[.val (.int p1), .val (.int p2), .val (.int p3), .val (.int nlv), .val (.int klv), .val (.int cA), .val (.int cB), .val (.int dA), .val (.int dB), .val (.ref b5), .val (.ref b8), .val (.ref b11), .val (.int ((psj ++ [(nar .byte (1 : Int32))]).length.toInt32)), .unset]) rfl ?_
  suffices J20 : ∀ (TJ20 : State) (hJ20 : Heap) (LJ20 : List Loc) (psk : List Int32), Stand p l e room_1 (s.setVm T10.vm) m #[(.int p1), (.int p2), (.int p3)] below meth c TJ20 LJ20 13 41 → TJ20.heap = hJ20 → Fr n0 LJ20 → Keep h19 hJ20 [b11] → Bal Z hJ20 b11 .byte (own_pad 13 psk) → psk = (psj ++ [(nar .byte (1 : Int32))]) ++ own_u (own_cs klv dA dB) → Gl p.tables e below PP (TJ20.setTop (mkF m 172 #[.val (.int p1), .val (.int p2), .val (.int p3), .val (.int nlv), .val (.int klv), .val (.int cA), .val (.int cB), .val (.int dA), .val (.int dB), .val (.ref b5), .val (.ref b8), .val (.ref b11), .val (.int (psk.length.toInt32)), .unset] [])) by
   have KJ20 : Keep h19 h19 [b11] := Keep.refl _ _
   refine Y.iload X19 hx (hb hby at_138) rfl ?_
   refine Y.iconst X19 hx (hb hby at_140) ?_
   by_cases hc21 : klv < (1 : Int32)
   refine Y.icmpYes X19 hx (pc0 := 141) (pc' := 155) rfl (hb hby at_141) rfl (tlt hc21).1 (by decide) (by decide) ?_
   refine Y.iload X19 hx (hb hby at_155) rfl ?_
   refine Y.iconst X19 hx (hb hby at_157) ?_
   refine Y.icmpYes X19 hx (pc0 := 158) (pc' := 172) rfl (hb hby at_158) rfl (tlt (show klv < (2 : Int32) from (own_12 hc21))).1 (by decide) (by decide) ?_
   exact J20 _ _ _ (psj ++ [(nar .byte (1 : Int32))]) (X19.more (by decide) (by decide)) e19 N19 KJ20 V_b11 (own_appc (own_w0 hkl hc21) (by rw [List.append_nil]))
   refine Y.icmpNo X19 hx (hb hby at_141) rfl (flt hc21).1 ?_
   refine Y.aload X19 hx (hb hby at_144) rfl rfl ?_
   refine Y.iload X19 hx (hb hby at_146) rfl ?_
   refine Y.iload X19 hx (hb hby at_148) rfl ?_
   have hl22 : (((psj ++ [(nar .byte (1 : Int32))]) ++ own_u1 dA)).length ≤ 10 := by rw [List.length_append]; have := own_u1l dA; have := hl1s; omega
   obtain ⟨_, _, ⟨T23, L23, k23, n23⟩, -, X23, ⟨Lc23, hQ23, l23, y23, z23⟩, st23⟩ := Jvm.LawKit.callS X19 hx (y := (⟨"com/example/hermod/hermod/RecordKeysItemPinLaw", "put", "([BIC)I"⟩ : MethodName)) hown10 (mvT hZ10 (W 42 rfl)) (mvT hZ10 (W 43 rfl)) (mvT hZ10 (W 2 rfl)) (mvT hZ10 (W 44 rfl)) (by decide) (backOf (W := 0) (rmput l Z a0 hw [] b11 ((psj ++ [(nar .byte (1 : Int32))]).length.toInt32) dA (psj ++ [(nar .byte (1 : Int32))]) h19 n0 Z19 V_b11 rfl (by have := hl1s; omega) g_b11) hZ10 (W 44 rfl) (W 2 rfl) (by decide) (by decide)) (g := (mkF m 150 #[.val (.int p1), .val (.int p2), .val (.int p3), .val (.int nlv), .val (.int klv), .val (.int cA), .val (.int cB), .val (.int dA), .val (.int dB), .val (.ref b5), .val (.ref b8), .val (.ref b11), .val (.int ((psj ++ [(nar .byte (1 : Int32))]).length.toInt32)), .unset] [(.int dA), (.int ((psj ++ [(nar .byte (1 : Int32))]).length.toInt32)), (.ref b11)])) rfl (by rw [hml]; rfl) (argsL := [(.ref b11), (.int ((psj ++ [(nar .byte (1 : Int32))]).length.toInt32)), (.int dA)]) (rest := []) (lenOf pd_23 rfl) rfl (by show 2 * 0 + _ ≤ _; exact Nat.le_of_eq rfl) (hb hby at_150) (fun _ _ => ⟨rfl, e19, (by decide : 13 + 0 ≤ _), (by decide : 41 + 0 ≤ _)⟩)
   dsimp only [Pt.U, Pt.locs, Pt.cells, Pt.slots] at X23 l23 y23 z23 st23 hQ23
   subst l23 y23 z23
   obtain ⟨rfl, N23q, K23, V23q⟩ := hQ23
   have N23 := Fr.app N19 N23q
   refine Gl.pre (fun _ k => st23 _ k) ?_
   have hs23 : ∀ x ∈ [b11], Safe Z own_EL _ _ x := (allS Sf_b11 all0)
   have Sf_b5 := Safe.keep K23 hs23 CR19.1 Sf_b5
   have Sf_b8 := Safe.keep K23 hs23 CR19.1 Sf_b8
   have Sf_b11 := Safe.keep K23 hs23 CR19.1 Sf_b11
   have CR23 := CR19.trans (CHr.keep K23 hs23 CR19.1)
   have O_ := O_.keep K23 (allS g_b11 all0)
   have E_b5 := E_b5.keep K23
   have V_ac6 := V_ac6.keep K23 (ninS (own_ne_ac6_b11) nin0)
   have F_value_b5 := F_value_b5.keep K23 (ninS (own_ne_b5_b11) nin0)
   have F_coder_b5 := F_coder_b5.keep K23 (ninS (own_ne_b5_b11) nin0)
   have V_vb7 := V_vb7.keep K23 (ninS (own_ne_vb7_b11) nin0)
   have E_vb7 := E_vb7.keep K23
   have E_b8 := E_b8.keep K23
   have V_ac9 := V_ac9.keep K23 (ninS (own_ne_ac9_b11) nin0)
   have F_value_b8 := F_value_b8.keep K23 (ninS (own_ne_b8_b11) nin0)
   have F_coder_b8 := F_coder_b8.keep K23 (ninS (own_ne_b8_b11) nin0)
   have V_vb10 := V_vb10.keep K23 (ninS (own_ne_vb10_b11) nin0)
   have E_vb10 := E_vb10.keep K23
   have hk23 := Nat.le_trans hk19 K23.1
   have Z23 : n0 ≤ T23.heap.size := Nat.le_trans Z19 K23.1
   have K23k := KJ20.trans K23 (allS (Or.inl (List.mem_of_getElem? (i := 0) rfl)) all0)
   have V_b11 := V23q
   refine Y.istore X23 hx (hb hby at_153) rfl (l' := #[.val (.int p1), .val (.int p2), .val (.int p3), .val (.int nlv), .val (.int klv), .val (.int cA), .val (.int cB), .val (.int dA), .val (.int dB), .val (.ref b5), .val (.ref b8), .val (.ref b11), .val (.int (((psj ++ [(nar .byte (1 : Int32))]) ++ own_u1 dA).length.toInt32)), .unset]) rfl ?_
   refine Y.iload X23 hx (hb hby at_155) rfl ?_
   refine Y.iconst X23 hx (hb hby at_157) ?_
   by_cases hc24 : klv < (2 : Int32)
   refine Y.icmpYes X23 hx (pc0 := 158) (pc' := 172) rfl (hb hby at_158) rfl (tlt hc24).1 (by decide) (by decide) ?_
   exact J20 _ _ _ ((psj ++ [(nar .byte (1 : Int32))]) ++ own_u1 dA) (X23.more (by decide) (by decide)) rfl N23 K23k V_b11 (own_appc (own_w1 hkl hc21 hc24) rfl)
   refine Y.icmpNo X23 hx (hb hby at_158) rfl (flt hc24).1 ?_
   refine Y.aload X23 hx (hb hby at_161) rfl rfl ?_
   refine Y.iload X23 hx (hb hby at_163) rfl ?_
   refine Y.iload X23 hx (hb hby at_165) rfl ?_
   have hl25 : ((((psj ++ [(nar .byte (1 : Int32))]) ++ own_u1 dA) ++ own_u1 dB)).length ≤ 13 := by rw [List.length_append]; have := own_u1l dB; have := hl22; omega
   obtain ⟨_, _, ⟨T26, L26, k26, n26⟩, -, X26, ⟨Lc26, hQ26, l26, y26, z26⟩, st26⟩ := Jvm.LawKit.callS X23 hx (y := (⟨"com/example/hermod/hermod/RecordKeysItemPinLaw", "put", "([BIC)I"⟩ : MethodName)) hown10 (mvT hZ10 (W 42 rfl)) (mvT hZ10 (W 43 rfl)) (mvT hZ10 (W 2 rfl)) (mvT hZ10 (W 44 rfl)) (by decide) (backOf (W := 0) (rmput l Z a0 hw [] b11 (((psj ++ [(nar .byte (1 : Int32))]) ++ own_u1 dA).length.toInt32) dB ((psj ++ [(nar .byte (1 : Int32))]) ++ own_u1 dA) T23.heap n0 Z23 V_b11 rfl (by have := hl22; omega) g_b11) hZ10 (W 44 rfl) (W 2 rfl) (by decide) (by decide)) (g := (mkF m 167 #[.val (.int p1), .val (.int p2), .val (.int p3), .val (.int nlv), .val (.int klv), .val (.int cA), .val (.int cB), .val (.int dA), .val (.int dB), .val (.ref b5), .val (.ref b8), .val (.ref b11), .val (.int (((psj ++ [(nar .byte (1 : Int32))]) ++ own_u1 dA).length.toInt32)), .unset] [(.int dB), (.int (((psj ++ [(nar .byte (1 : Int32))]) ++ own_u1 dA).length.toInt32)), (.ref b11)])) rfl (by rw [hml]; rfl) (argsL := [(.ref b11), (.int (((psj ++ [(nar .byte (1 : Int32))]) ++ own_u1 dA).length.toInt32)), (.int dB)]) (rest := []) (lenOf pd_23 rfl) rfl (by show 2 * 0 + _ ≤ _; exact Nat.le_of_eq rfl) (hb hby at_167) (fun _ _ => ⟨rfl, rfl, (by decide : 13 + 0 ≤ _), (by decide : 41 + 0 ≤ _)⟩)
   dsimp only [Pt.U, Pt.locs, Pt.cells, Pt.slots] at X26 l26 y26 z26 st26 hQ26
   subst l26 y26 z26
   obtain ⟨rfl, N26q, K26, V26q⟩ := hQ26
   have N26 := Fr.app N23 N26q
   refine Gl.pre (fun _ k => st26 _ k) ?_
   have hs26 : ∀ x ∈ [b11], Safe Z own_EL _ _ x := (allS Sf_b11 all0)
   have Sf_b5 := Safe.keep K26 hs26 CR23.1 Sf_b5
   have Sf_b8 := Safe.keep K26 hs26 CR23.1 Sf_b8
   have Sf_b11 := Safe.keep K26 hs26 CR23.1 Sf_b11
   have CR26 := CR23.trans (CHr.keep K26 hs26 CR23.1)
   have O_ := O_.keep K26 (allS g_b11 all0)
   have E_b5 := E_b5.keep K26
   have V_ac6 := V_ac6.keep K26 (ninS (own_ne_ac6_b11) nin0)
   have F_value_b5 := F_value_b5.keep K26 (ninS (own_ne_b5_b11) nin0)
   have F_coder_b5 := F_coder_b5.keep K26 (ninS (own_ne_b5_b11) nin0)
   have V_vb7 := V_vb7.keep K26 (ninS (own_ne_vb7_b11) nin0)
   have E_vb7 := E_vb7.keep K26
   have E_b8 := E_b8.keep K26
   have V_ac9 := V_ac9.keep K26 (ninS (own_ne_ac9_b11) nin0)
   have F_value_b8 := F_value_b8.keep K26 (ninS (own_ne_b8_b11) nin0)
   have F_coder_b8 := F_coder_b8.keep K26 (ninS (own_ne_b8_b11) nin0)
   have V_vb10 := V_vb10.keep K26 (ninS (own_ne_vb10_b11) nin0)
   have E_vb10 := E_vb10.keep K26
   have hk26 := Nat.le_trans hk23 K26.1
   have Z26 : n0 ≤ T26.heap.size := Nat.le_trans Z23 K26.1
   have K26k := K23k.trans K26 (allS (Or.inl (List.mem_of_getElem? (i := 0) rfl)) all0)
   have V_b11 := V26q
   refine Y.istore X26 hx (hb hby at_170) rfl (l' := #[.val (.int p1), .val (.int p2), .val (.int p3), .val (.int nlv), .val (.int klv), .val (.int cA), .val (.int cB), .val (.int dA), .val (.int dB), .val (.ref b5), .val (.ref b8), .val (.ref b11), .val (.int ((((psj ++ [(nar .byte (1 : Int32))]) ++ own_u1 dA) ++ own_u1 dB).length.toInt32)), .unset]) rfl ?_
   exact J20 _ _ _ (((psj ++ [(nar .byte (1 : Int32))]) ++ own_u1 dA) ++ own_u1 dB) (X26.more (by decide) (by decide)) rfl N26 K26k V_b11 (own_appc (own_w2 hkl hc21 hc24) (by rw [List.append_assoc]))
  intro TJ20 hJ20 LJ20 psk X20 e20 N20 K20 vpsk epsk
  have hs20 : ∀ x ∈ [b11], Safe Z own_EL _ _ x := (allS Sf_b11 all0)
  have Sf_b5 := Safe.keep K20 hs20 CR19.1 Sf_b5
  have Sf_b8 := Safe.keep K20 hs20 CR19.1 Sf_b8
  have Sf_b11 := Safe.keep K20 hs20 CR19.1 Sf_b11
  have CR20 := CR19.trans (CHr.keep K20 hs20 CR19.1)
  have O_ := O_.keep K20 (allS g_b11 all0)
  have E_b5 := E_b5.keep K20
  have V_ac6 := V_ac6.keep K20 (ninS (own_ne_ac6_b11) nin0)
  have F_value_b5 := F_value_b5.keep K20 (ninS (own_ne_b5_b11) nin0)
  have F_coder_b5 := F_coder_b5.keep K20 (ninS (own_ne_b5_b11) nin0)
  have V_vb7 := V_vb7.keep K20 (ninS (own_ne_vb7_b11) nin0)
  have E_vb7 := E_vb7.keep K20
  have E_b8 := E_b8.keep K20
  have V_ac9 := V_ac9.keep K20 (ninS (own_ne_ac9_b11) nin0)
  have F_value_b8 := F_value_b8.keep K20 (ninS (own_ne_b8_b11) nin0)
  have F_coder_b8 := F_coder_b8.keep K20 (ninS (own_ne_b8_b11) nin0)
  have V_vb10 := V_vb10.keep K20 (ninS (own_ne_vb10_b11) nin0)
  have E_vb10 := E_vb10.keep K20
  have hk20 := Nat.le_trans hk19 K20.1
  have Z20 : n0 ≤ hJ20.size := Nat.le_trans Z19 K20.1
  show Gl p.tables e below PP (TJ20.setTop (mkF m 172 #[.val (.int p1), .val (.int p2), .val (.int p3), .val (.int nlv), .val (.int klv), .val (.int cA), .val (.int cB), .val (.int dA), .val (.int dB), .val (.ref b5), .val (.ref b8), .val (.ref b11), .val (.int (psk.length.toInt32)), .unset] []))
  have hlpsk : psk.length ≤ 13 := by rw [epsk, List.length_append]; have := own_ul (own_csl klv dA dB); have := hl1s; omega
  have V_b11 := vpsk
  refine Y.aload X20 hx (hb hby at_172) rfl rfl ?_
  refine Y.aload X20 hx (hb hby at_174) rfl rfl ?_
  obtain ⟨_, _, ⟨T27, L27, k27, n27⟩, -, X27, ⟨Lc27, hQ27, l27, y27, z27⟩, st27⟩ := Jvm.LawKit.callS X20 hx (y := (⟨"com/example/hermod/hermod/RecordKeys", "item", "(Ljava/lang/String;Ljava/lang/String;)[B"⟩ : MethodName)) hown10 (mvT hZ10 (W 45 rfl)) (mvT hZ10 (W 46 rfl)) (mvT hZ10 (W 47 rfl)) (mvT hZ10 (W 48 rfl)) (by decide) (backOf (W := 0) (rmitem3 l Z a0 hw [] b5 b8 co10 vb10 (own_cs klv dA dB) ys10 ut co7 vb7 (own_cs nlv cA cB) ys7 cs hJ20 n0 Z20 E_b5 F_value_b5 F_coder_b5 V_vb7 E_vb7 hrp7 (own_csm hncA hncB) (own_csh hrcA hrcB) E_b8 F_value_b8 F_coder_b8 V_vb10 E_vb10 hrp10 (own_csm hndA hndB) (own_csh hrdA hrdB) SUT SIN SBC hcs SAD SHI SLO O_) hZ10 (W 48 rfl) (W 47 rfl) (by decide) (by decide)) (g := (mkF m 176 #[.val (.int p1), .val (.int p2), .val (.int p3), .val (.int nlv), .val (.int klv), .val (.int cA), .val (.int cB), .val (.int dA), .val (.int dB), .val (.ref b5), .val (.ref b8), .val (.ref b11), .val (.int (psk.length.toInt32)), .unset] [(.ref b8), (.ref b5)])) rfl (by rw [hml]; rfl) (argsL := [(.ref b5), (.ref b8)]) (rest := []) (lenOf pd_24 rfl) rfl (by show 2 * 0 + _ ≤ _; exact Nat.le_of_eq rfl) (hb hby at_176) (fun _ _ => ⟨rfl, e20, (by decide : 13 + 5 ≤ _), (by decide : 41 + 35 ≤ _)⟩)
  dsimp only [Pt.U, Pt.locs, Pt.cells, Pt.slots] at X27 l27 y27 z27 st27 hQ27
  subst l27 y27 z27
  obtain ⟨br27, rfl, N27q, hz27, K27, V27q⟩ := hQ27
  have N27 := Fr.app N20 N27q
  refine Gl.pre (fun _ k => st27 _ k) ?_
  have own_ne_b5_br27 : b5 ≠ br27 := Nat.ne_of_lt (Nat.lt_of_lt_of_le E_b5.lt hz27)
  have own_ne_br27_b5 := own_ne_b5_br27.symm
  have own_ne_ac6_br27 : ac6 ≠ br27 := Nat.ne_of_lt (Nat.lt_of_lt_of_le V_ac6.lt hz27)
  have own_ne_br27_ac6 := own_ne_ac6_br27.symm
  have own_ne_vb7_br27 : vb7 ≠ br27 := Nat.ne_of_lt (Nat.lt_of_lt_of_le V_vb7.lt hz27)
  have own_ne_br27_vb7 := own_ne_vb7_br27.symm
  have own_ne_b8_br27 : b8 ≠ br27 := Nat.ne_of_lt (Nat.lt_of_lt_of_le E_b8.lt hz27)
  have own_ne_br27_b8 := own_ne_b8_br27.symm
  have own_ne_ac9_br27 : ac9 ≠ br27 := Nat.ne_of_lt (Nat.lt_of_lt_of_le V_ac9.lt hz27)
  have own_ne_br27_ac9 := own_ne_ac9_br27.symm
  have own_ne_vb10_br27 : vb10 ≠ br27 := Nat.ne_of_lt (Nat.lt_of_lt_of_le V_vb10.lt hz27)
  have own_ne_br27_vb10 := own_ne_vb10_br27.symm
  have own_ne_b11_br27 : b11 ≠ br27 := Nat.ne_of_lt (Nat.lt_of_lt_of_le V_b11.lt hz27)
  have own_ne_br27_b11 := own_ne_b11_br27.symm
  have g_br27 : n0 ≤ br27 := Nat.le_trans Z20 hz27
  have Sf_br270 := Safe.new (Z := Z) (EL := own_EL) (vm := T10.vm) hz27
  have Sf_b5 := Safe.keep K27 all0 CR20.1 Sf_b5
  have Sf_b8 := Safe.keep K27 all0 CR20.1 Sf_b8
  have Sf_b11 := Safe.keep K27 all0 CR20.1 Sf_b11
  have CR27 := CR20.trans (CHr.keep K27 all0 CR20.1)
  have O_ := O_.keep K27 all0
  have E_b5 := E_b5.keep K27
  have V_ac6 := V_ac6.keep K27 nin0
  have F_value_b5 := F_value_b5.keep K27 nin0
  have F_coder_b5 := F_coder_b5.keep K27 nin0
  have V_vb7 := V_vb7.keep K27 nin0
  have E_vb7 := E_vb7.keep K27
  have E_b8 := E_b8.keep K27
  have V_ac9 := V_ac9.keep K27 nin0
  have F_value_b8 := F_value_b8.keep K27 nin0
  have F_coder_b8 := F_coder_b8.keep K27 nin0
  have V_vb10 := V_vb10.keep K27 nin0
  have E_vb10 := E_vb10.keep K27
  have V_b11 := V_b11.keep K27 nin0
  have hk27 := Nat.le_trans hk20 K27.1
  have Z27 : n0 ≤ T27.heap.size := Nat.le_trans Z20 K27.1
  have V_br27 := V27q
  refine Y.astore X27 hx (hb hby at_179) rfl rfl (l' := #[.val (.int p1), .val (.int p2), .val (.int p3), .val (.int nlv), .val (.int klv), .val (.int cA), .val (.int cB), .val (.int dA), .val (.int dB), .val (.ref b5), .val (.ref b8), .val (.ref b11), .val (.int (psk.length.toInt32)), .val (.ref br27)]) rfl ?_
  have hge : (own_u (own_cs nlv cA cB) ++ (nar .byte (1 : Int32)) :: own_u (own_cs klv dA dB)) = psk := by rw [epsk, epsj]; simp only [List.append_assoc, List.singleton_append, List.cons_append, List.nil_append]
  rw [hge] at V_br27
  refine Y.aload X27 hx (hb hby at_181) rfl rfl ?_
  refine Y.ifnullNo X27 hx (hb hby at_183) rfl ?_
  refine Y.aload X27 hx (hb hby at_186) rfl rfl ?_
  refine Gl.pre (fun _ k => own_len X27 hx hZ10 rfl V_br27 (v := (psk.length.toInt32)) rfl (g := (mkF m 188 #[.val (.int p1), .val (.int p2), .val (.int p3), .val (.int nlv), .val (.int klv), .val (.int cA), .val (.int cB), .val (.int dA), .val (.int dB), .val (.ref b5), .val (.ref b8), .val (.ref b11), .val (.int (psk.length.toInt32)), .val (.ref br27)] [(.ref br27)])) rfl rfl (hb hby at_188) _ k) ?_
  refine Y.iload X27 hx (hb hby at_189) rfl ?_
  refine Y.icmpYes X27 hx (pc0 := 191) (pc' := 196) rfl (hb hby at_191) rfl (teq (show (psk.length.toInt32) = (psk.length.toInt32) from rfl)).1 (by decide) (by decide) ?_
  refine Y.aload X27 hx (hb hby at_196) rfl rfl ?_
  refine Y.aload X27 hx (hb hby at_198) rfl rfl ?_
  refine Y.iconst X27 hx (hb hby at_200) ?_
  refine Y.iload X27 hx (hb hby at_201) rfl ?_
  obtain ⟨_, _, ⟨T28, L28, k28, n28⟩, -, X28, ⟨Lc28, hQ28, l28, y28, z28⟩, st28⟩ := Jvm.LawKit.callS X27 hx (y := (⟨"com/example/hermod/hermod/RecordKeysItemPinLaw", "at", "([B[BII)Z"⟩ : MethodName)) hown10 (mvT hZ10 (W 95 rfl)) (mvT hZ10 (W 96 rfl)) (mvT hZ10 (W 2 rfl)) (mvT hZ10 (W 97 rfl)) (by decide) (backOf (W := 0) (rmat l Z a0 hw [] br27 b11 (0 : Int32) psk T27.heap n0 Z27 V_br27 V_b11 hlpsk (by decide)) hZ10 (W 97 rfl) (W 2 rfl) (by decide) (by decide)) (g := (mkF m 203 #[.val (.int p1), .val (.int p2), .val (.int p3), .val (.int nlv), .val (.int klv), .val (.int cA), .val (.int cB), .val (.int dA), .val (.int dB), .val (.ref b5), .val (.ref b8), .val (.ref b11), .val (.int (psk.length.toInt32)), .val (.ref br27)] [(.int (psk.length.toInt32)), (.int (0 : Int32)), (.ref b11), (.ref br27)])) rfl (by rw [hml]; rfl) (argsL := [(.ref br27), (.ref b11), (.int (0 : Int32)), (.int (psk.length.toInt32))]) (rest := []) (lenOf pd_25 rfl) rfl (by show 2 * 0 + _ ≤ _; exact Nat.le_of_eq rfl) (hb hby at_203) (fun _ _ => ⟨rfl, rfl, (by decide : 18 + 0 ≤ _), (by decide : 76 + 0 ≤ _)⟩)
  dsimp only [Pt.U, Pt.locs, Pt.cells, Pt.slots] at X28 l28 y28 z28 st28 hQ28
  subst l28 y28 z28
  obtain ⟨rfl, N28q, e28⟩ := hQ28
  have N28 := Fr.app N27 N28q
  refine Gl.pre (fun _ k => st28 _ k) ?_
  refine Y.ifNo X28 hx (hb hby at_206) rfl ((if0 _ _).trans (feq (show ¬ ((1 : Int32) = (0 : Int32)) from (by decide))).1) ?_
  refine Y.aload X28 hx (hb hby at_209) rfl rfl ?_
  refine Y.aload X28 hx (hb hby at_211) rfl rfl ?_
  refine Y.iconst X28 hx (hb hby at_213) ?_
  refine Y.iload X28 hx (hb hby at_214) rfl ?_
  obtain ⟨_, _, ⟨T29, L29, k29, n29⟩, -, X29, ⟨Lc29, hQ29, l29, y29, z29⟩, st29⟩ := Jvm.LawKit.callS X28 hx (y := (⟨"com/example/hermod/hermod/RecordKeysItemPinLaw", "at", "([B[BII)Z"⟩ : MethodName)) hown10 (mvT hZ10 (W 95 rfl)) (mvT hZ10 (W 96 rfl)) (mvT hZ10 (W 2 rfl)) (mvT hZ10 (W 97 rfl)) (by decide) (backOf (W := 0) (rmat l Z a0 hw [] br27 b11 (1 : Int32) psk T27.heap n0 Z27 V_br27 V_b11 hlpsk (by decide)) hZ10 (W 97 rfl) (W 2 rfl) (by decide) (by decide)) (g := (mkF m 216 #[.val (.int p1), .val (.int p2), .val (.int p3), .val (.int nlv), .val (.int klv), .val (.int cA), .val (.int cB), .val (.int dA), .val (.int dB), .val (.ref b5), .val (.ref b8), .val (.ref b11), .val (.int (psk.length.toInt32)), .val (.ref br27)] [(.int (psk.length.toInt32)), (.int (1 : Int32)), (.ref b11), (.ref br27)])) rfl (by rw [hml]; rfl) (argsL := [(.ref br27), (.ref b11), (.int (1 : Int32)), (.int (psk.length.toInt32))]) (rest := []) (lenOf pd_25 rfl) rfl (by show 2 * 0 + _ ≤ _; exact Nat.le_of_eq rfl) (hb hby at_216) (fun _ _ => ⟨rfl, e28, (by decide : 18 + 0 ≤ _), (by decide : 76 + 0 ≤ _)⟩)
  dsimp only [Pt.U, Pt.locs, Pt.cells, Pt.slots] at X29 l29 y29 z29 st29 hQ29
  subst l29 y29 z29
  obtain ⟨rfl, N29q, e29⟩ := hQ29
  have N29 := Fr.app N28 N29q
  refine Gl.pre (fun _ k => st29 _ k) ?_
  refine Y.ifNo X29 hx (hb hby at_219) rfl ((if0 _ _).trans (feq (show ¬ ((1 : Int32) = (0 : Int32)) from (by decide))).1) ?_
  refine Y.aload X29 hx (hb hby at_222) rfl rfl ?_
  refine Y.aload X29 hx (hb hby at_224) rfl rfl ?_
  refine Y.iconst X29 hx (hb hby at_226) ?_
  refine Y.iload X29 hx (hb hby at_227) rfl ?_
  obtain ⟨_, _, ⟨T30, L30, k30, n30⟩, -, X30, ⟨Lc30, hQ30, l30, y30, z30⟩, st30⟩ := Jvm.LawKit.callS X29 hx (y := (⟨"com/example/hermod/hermod/RecordKeysItemPinLaw", "at", "([B[BII)Z"⟩ : MethodName)) hown10 (mvT hZ10 (W 95 rfl)) (mvT hZ10 (W 96 rfl)) (mvT hZ10 (W 2 rfl)) (mvT hZ10 (W 97 rfl)) (by decide) (backOf (W := 0) (rmat l Z a0 hw [] br27 b11 (2 : Int32) psk T27.heap n0 Z27 V_br27 V_b11 hlpsk (by decide)) hZ10 (W 97 rfl) (W 2 rfl) (by decide) (by decide)) (g := (mkF m 229 #[.val (.int p1), .val (.int p2), .val (.int p3), .val (.int nlv), .val (.int klv), .val (.int cA), .val (.int cB), .val (.int dA), .val (.int dB), .val (.ref b5), .val (.ref b8), .val (.ref b11), .val (.int (psk.length.toInt32)), .val (.ref br27)] [(.int (psk.length.toInt32)), (.int (2 : Int32)), (.ref b11), (.ref br27)])) rfl (by rw [hml]; rfl) (argsL := [(.ref br27), (.ref b11), (.int (2 : Int32)), (.int (psk.length.toInt32))]) (rest := []) (lenOf pd_25 rfl) rfl (by show 2 * 0 + _ ≤ _; exact Nat.le_of_eq rfl) (hb hby at_229) (fun _ _ => ⟨rfl, e29, (by decide : 18 + 0 ≤ _), (by decide : 76 + 0 ≤ _)⟩)
  dsimp only [Pt.U, Pt.locs, Pt.cells, Pt.slots] at X30 l30 y30 z30 st30 hQ30
  subst l30 y30 z30
  obtain ⟨rfl, N30q, e30⟩ := hQ30
  have N30 := Fr.app N29 N30q
  refine Gl.pre (fun _ k => st30 _ k) ?_
  refine Y.ifNo X30 hx (hb hby at_232) rfl ((if0 _ _).trans (feq (show ¬ ((1 : Int32) = (0 : Int32)) from (by decide))).1) ?_
  refine Y.aload X30 hx (hb hby at_235) rfl rfl ?_
  refine Y.aload X30 hx (hb hby at_237) rfl rfl ?_
  refine Y.iconst X30 hx (hb hby at_239) ?_
  refine Y.iload X30 hx (hb hby at_240) rfl ?_
  obtain ⟨_, _, ⟨T31, L31, k31, n31⟩, -, X31, ⟨Lc31, hQ31, l31, y31, z31⟩, st31⟩ := Jvm.LawKit.callS X30 hx (y := (⟨"com/example/hermod/hermod/RecordKeysItemPinLaw", "at", "([B[BII)Z"⟩ : MethodName)) hown10 (mvT hZ10 (W 95 rfl)) (mvT hZ10 (W 96 rfl)) (mvT hZ10 (W 2 rfl)) (mvT hZ10 (W 97 rfl)) (by decide) (backOf (W := 0) (rmat l Z a0 hw [] br27 b11 (3 : Int32) psk T27.heap n0 Z27 V_br27 V_b11 hlpsk (by decide)) hZ10 (W 97 rfl) (W 2 rfl) (by decide) (by decide)) (g := (mkF m 242 #[.val (.int p1), .val (.int p2), .val (.int p3), .val (.int nlv), .val (.int klv), .val (.int cA), .val (.int cB), .val (.int dA), .val (.int dB), .val (.ref b5), .val (.ref b8), .val (.ref b11), .val (.int (psk.length.toInt32)), .val (.ref br27)] [(.int (psk.length.toInt32)), (.int (3 : Int32)), (.ref b11), (.ref br27)])) rfl (by rw [hml]; rfl) (argsL := [(.ref br27), (.ref b11), (.int (3 : Int32)), (.int (psk.length.toInt32))]) (rest := []) (lenOf pd_25 rfl) rfl (by show 2 * 0 + _ ≤ _; exact Nat.le_of_eq rfl) (hb hby at_242) (fun _ _ => ⟨rfl, e30, (by decide : 18 + 0 ≤ _), (by decide : 76 + 0 ≤ _)⟩)
  dsimp only [Pt.U, Pt.locs, Pt.cells, Pt.slots] at X31 l31 y31 z31 st31 hQ31
  subst l31 y31 z31
  obtain ⟨rfl, N31q, e31⟩ := hQ31
  have N31 := Fr.app N30 N31q
  refine Gl.pre (fun _ k => st31 _ k) ?_
  refine Y.ifNo X31 hx (hb hby at_245) rfl ((if0 _ _).trans (feq (show ¬ ((1 : Int32) = (0 : Int32)) from (by decide))).1) ?_
  refine Y.aload X31 hx (hb hby at_248) rfl rfl ?_
  refine Y.aload X31 hx (hb hby at_250) rfl rfl ?_
  refine Y.iconst X31 hx (hb hby at_252) ?_
  refine Y.iload X31 hx (hb hby at_253) rfl ?_
  obtain ⟨_, _, ⟨T32, L32, k32, n32⟩, -, X32, ⟨Lc32, hQ32, l32, y32, z32⟩, st32⟩ := Jvm.LawKit.callS X31 hx (y := (⟨"com/example/hermod/hermod/RecordKeysItemPinLaw", "at", "([B[BII)Z"⟩ : MethodName)) hown10 (mvT hZ10 (W 95 rfl)) (mvT hZ10 (W 96 rfl)) (mvT hZ10 (W 2 rfl)) (mvT hZ10 (W 97 rfl)) (by decide) (backOf (W := 0) (rmat l Z a0 hw [] br27 b11 (4 : Int32) psk T27.heap n0 Z27 V_br27 V_b11 hlpsk (by decide)) hZ10 (W 97 rfl) (W 2 rfl) (by decide) (by decide)) (g := (mkF m 255 #[.val (.int p1), .val (.int p2), .val (.int p3), .val (.int nlv), .val (.int klv), .val (.int cA), .val (.int cB), .val (.int dA), .val (.int dB), .val (.ref b5), .val (.ref b8), .val (.ref b11), .val (.int (psk.length.toInt32)), .val (.ref br27)] [(.int (psk.length.toInt32)), (.int (4 : Int32)), (.ref b11), (.ref br27)])) rfl (by rw [hml]; rfl) (argsL := [(.ref br27), (.ref b11), (.int (4 : Int32)), (.int (psk.length.toInt32))]) (rest := []) (lenOf pd_25 rfl) rfl (by show 2 * 0 + _ ≤ _; exact Nat.le_of_eq rfl) (hb hby at_255) (fun _ _ => ⟨rfl, e31, (by decide : 18 + 0 ≤ _), (by decide : 76 + 0 ≤ _)⟩)
  dsimp only [Pt.U, Pt.locs, Pt.cells, Pt.slots] at X32 l32 y32 z32 st32 hQ32
  subst l32 y32 z32
  obtain ⟨rfl, N32q, e32⟩ := hQ32
  have N32 := Fr.app N31 N32q
  refine Gl.pre (fun _ k => st32 _ k) ?_
  refine Y.ifNo X32 hx (hb hby at_258) rfl ((if0 _ _).trans (feq (show ¬ ((1 : Int32) = (0 : Int32)) from (by decide))).1) ?_
  refine Y.aload X32 hx (hb hby at_261) rfl rfl ?_
  refine Y.aload X32 hx (hb hby at_263) rfl rfl ?_
  refine Y.iconst X32 hx (hb hby at_265) ?_
  refine Y.iload X32 hx (hb hby at_266) rfl ?_
  obtain ⟨_, _, ⟨T33, L33, k33, n33⟩, -, X33, ⟨Lc33, hQ33, l33, y33, z33⟩, st33⟩ := Jvm.LawKit.callS X32 hx (y := (⟨"com/example/hermod/hermod/RecordKeysItemPinLaw", "at", "([B[BII)Z"⟩ : MethodName)) hown10 (mvT hZ10 (W 95 rfl)) (mvT hZ10 (W 96 rfl)) (mvT hZ10 (W 2 rfl)) (mvT hZ10 (W 97 rfl)) (by decide) (backOf (W := 0) (rmat l Z a0 hw [] br27 b11 (5 : Int32) psk T27.heap n0 Z27 V_br27 V_b11 hlpsk (by decide)) hZ10 (W 97 rfl) (W 2 rfl) (by decide) (by decide)) (g := (mkF m 268 #[.val (.int p1), .val (.int p2), .val (.int p3), .val (.int nlv), .val (.int klv), .val (.int cA), .val (.int cB), .val (.int dA), .val (.int dB), .val (.ref b5), .val (.ref b8), .val (.ref b11), .val (.int (psk.length.toInt32)), .val (.ref br27)] [(.int (psk.length.toInt32)), (.int (5 : Int32)), (.ref b11), (.ref br27)])) rfl (by rw [hml]; rfl) (argsL := [(.ref br27), (.ref b11), (.int (5 : Int32)), (.int (psk.length.toInt32))]) (rest := []) (lenOf pd_25 rfl) rfl (by show 2 * 0 + _ ≤ _; exact Nat.le_of_eq rfl) (hb hby at_268) (fun _ _ => ⟨rfl, e32, (by decide : 18 + 0 ≤ _), (by decide : 76 + 0 ≤ _)⟩)
  dsimp only [Pt.U, Pt.locs, Pt.cells, Pt.slots] at X33 l33 y33 z33 st33 hQ33
  subst l33 y33 z33
  obtain ⟨rfl, N33q, e33⟩ := hQ33
  have N33 := Fr.app N32 N33q
  refine Gl.pre (fun _ k => st33 _ k) ?_
  refine Y.ifNo X33 hx (hb hby at_271) rfl ((if0 _ _).trans (feq (show ¬ ((1 : Int32) = (0 : Int32)) from (by decide))).1) ?_
  refine Y.aload X33 hx (hb hby at_274) rfl rfl ?_
  refine Y.aload X33 hx (hb hby at_276) rfl rfl ?_
  refine Y.bipush X33 hx (hb hby at_278) ?_
  refine Y.iload X33 hx (hb hby at_280) rfl ?_
  obtain ⟨_, _, ⟨T34, L34, k34, n34⟩, -, X34, ⟨Lc34, hQ34, l34, y34, z34⟩, st34⟩ := Jvm.LawKit.callS X33 hx (y := (⟨"com/example/hermod/hermod/RecordKeysItemPinLaw", "at", "([B[BII)Z"⟩ : MethodName)) hown10 (mvT hZ10 (W 95 rfl)) (mvT hZ10 (W 96 rfl)) (mvT hZ10 (W 2 rfl)) (mvT hZ10 (W 97 rfl)) (by decide) (backOf (W := 0) (rmat l Z a0 hw [] br27 b11 (6 : Int32) psk T27.heap n0 Z27 V_br27 V_b11 hlpsk (by decide)) hZ10 (W 97 rfl) (W 2 rfl) (by decide) (by decide)) (g := (mkF m 282 #[.val (.int p1), .val (.int p2), .val (.int p3), .val (.int nlv), .val (.int klv), .val (.int cA), .val (.int cB), .val (.int dA), .val (.int dB), .val (.ref b5), .val (.ref b8), .val (.ref b11), .val (.int (psk.length.toInt32)), .val (.ref br27)] [(.int (psk.length.toInt32)), (.int (6 : Int32)), (.ref b11), (.ref br27)])) rfl (by rw [hml]; rfl) (argsL := [(.ref br27), (.ref b11), (.int (6 : Int32)), (.int (psk.length.toInt32))]) (rest := []) (lenOf pd_25 rfl) rfl (by show 2 * 0 + _ ≤ _; exact Nat.le_of_eq rfl) (hb hby at_282) (fun _ _ => ⟨rfl, e33, (by decide : 18 + 0 ≤ _), (by decide : 76 + 0 ≤ _)⟩)
  dsimp only [Pt.U, Pt.locs, Pt.cells, Pt.slots] at X34 l34 y34 z34 st34 hQ34
  subst l34 y34 z34
  obtain ⟨rfl, N34q, e34⟩ := hQ34
  have N34 := Fr.app N33 N34q
  refine Gl.pre (fun _ k => st34 _ k) ?_
  refine Y.ifNo X34 hx (hb hby at_285) rfl ((if0 _ _).trans (feq (show ¬ ((1 : Int32) = (0 : Int32)) from (by decide))).1) ?_
  refine Y.aload X34 hx (hb hby at_288) rfl rfl ?_
  refine Y.aload X34 hx (hb hby at_290) rfl rfl ?_
  refine Y.bipush X34 hx (hb hby at_292) ?_
  refine Y.iload X34 hx (hb hby at_294) rfl ?_
  obtain ⟨_, _, ⟨T35, L35, k35, n35⟩, -, X35, ⟨Lc35, hQ35, l35, y35, z35⟩, st35⟩ := Jvm.LawKit.callS X34 hx (y := (⟨"com/example/hermod/hermod/RecordKeysItemPinLaw", "at", "([B[BII)Z"⟩ : MethodName)) hown10 (mvT hZ10 (W 95 rfl)) (mvT hZ10 (W 96 rfl)) (mvT hZ10 (W 2 rfl)) (mvT hZ10 (W 97 rfl)) (by decide) (backOf (W := 0) (rmat l Z a0 hw [] br27 b11 (7 : Int32) psk T27.heap n0 Z27 V_br27 V_b11 hlpsk (by decide)) hZ10 (W 97 rfl) (W 2 rfl) (by decide) (by decide)) (g := (mkF m 296 #[.val (.int p1), .val (.int p2), .val (.int p3), .val (.int nlv), .val (.int klv), .val (.int cA), .val (.int cB), .val (.int dA), .val (.int dB), .val (.ref b5), .val (.ref b8), .val (.ref b11), .val (.int (psk.length.toInt32)), .val (.ref br27)] [(.int (psk.length.toInt32)), (.int (7 : Int32)), (.ref b11), (.ref br27)])) rfl (by rw [hml]; rfl) (argsL := [(.ref br27), (.ref b11), (.int (7 : Int32)), (.int (psk.length.toInt32))]) (rest := []) (lenOf pd_25 rfl) rfl (by show 2 * 0 + _ ≤ _; exact Nat.le_of_eq rfl) (hb hby at_296) (fun _ _ => ⟨rfl, e34, (by decide : 18 + 0 ≤ _), (by decide : 76 + 0 ≤ _)⟩)
  dsimp only [Pt.U, Pt.locs, Pt.cells, Pt.slots] at X35 l35 y35 z35 st35 hQ35
  subst l35 y35 z35
  obtain ⟨rfl, N35q, e35⟩ := hQ35
  have N35 := Fr.app N34 N35q
  refine Gl.pre (fun _ k => st35 _ k) ?_
  refine Y.ifNo X35 hx (hb hby at_299) rfl ((if0 _ _).trans (feq (show ¬ ((1 : Int32) = (0 : Int32)) from (by decide))).1) ?_
  refine Y.aload X35 hx (hb hby at_302) rfl rfl ?_
  refine Y.aload X35 hx (hb hby at_304) rfl rfl ?_
  refine Y.bipush X35 hx (hb hby at_306) ?_
  refine Y.iload X35 hx (hb hby at_308) rfl ?_
  obtain ⟨_, _, ⟨T36, L36, k36, n36⟩, -, X36, ⟨Lc36, hQ36, l36, y36, z36⟩, st36⟩ := Jvm.LawKit.callS X35 hx (y := (⟨"com/example/hermod/hermod/RecordKeysItemPinLaw", "at", "([B[BII)Z"⟩ : MethodName)) hown10 (mvT hZ10 (W 95 rfl)) (mvT hZ10 (W 96 rfl)) (mvT hZ10 (W 2 rfl)) (mvT hZ10 (W 97 rfl)) (by decide) (backOf (W := 0) (rmat l Z a0 hw [] br27 b11 (8 : Int32) psk T27.heap n0 Z27 V_br27 V_b11 hlpsk (by decide)) hZ10 (W 97 rfl) (W 2 rfl) (by decide) (by decide)) (g := (mkF m 310 #[.val (.int p1), .val (.int p2), .val (.int p3), .val (.int nlv), .val (.int klv), .val (.int cA), .val (.int cB), .val (.int dA), .val (.int dB), .val (.ref b5), .val (.ref b8), .val (.ref b11), .val (.int (psk.length.toInt32)), .val (.ref br27)] [(.int (psk.length.toInt32)), (.int (8 : Int32)), (.ref b11), (.ref br27)])) rfl (by rw [hml]; rfl) (argsL := [(.ref br27), (.ref b11), (.int (8 : Int32)), (.int (psk.length.toInt32))]) (rest := []) (lenOf pd_25 rfl) rfl (by show 2 * 0 + _ ≤ _; exact Nat.le_of_eq rfl) (hb hby at_310) (fun _ _ => ⟨rfl, e35, (by decide : 18 + 0 ≤ _), (by decide : 76 + 0 ≤ _)⟩)
  dsimp only [Pt.U, Pt.locs, Pt.cells, Pt.slots] at X36 l36 y36 z36 st36 hQ36
  subst l36 y36 z36
  obtain ⟨rfl, N36q, e36⟩ := hQ36
  have N36 := Fr.app N35 N36q
  refine Gl.pre (fun _ k => st36 _ k) ?_
  refine Y.ifNo X36 hx (hb hby at_313) rfl ((if0 _ _).trans (feq (show ¬ ((1 : Int32) = (0 : Int32)) from (by decide))).1) ?_
  refine Y.aload X36 hx (hb hby at_316) rfl rfl ?_
  refine Y.aload X36 hx (hb hby at_318) rfl rfl ?_
  refine Y.bipush X36 hx (hb hby at_320) ?_
  refine Y.iload X36 hx (hb hby at_322) rfl ?_
  obtain ⟨_, _, ⟨T37, L37, k37, n37⟩, -, X37, ⟨Lc37, hQ37, l37, y37, z37⟩, st37⟩ := Jvm.LawKit.callS X36 hx (y := (⟨"com/example/hermod/hermod/RecordKeysItemPinLaw", "at", "([B[BII)Z"⟩ : MethodName)) hown10 (mvT hZ10 (W 95 rfl)) (mvT hZ10 (W 96 rfl)) (mvT hZ10 (W 2 rfl)) (mvT hZ10 (W 97 rfl)) (by decide) (backOf (W := 0) (rmat l Z a0 hw [] br27 b11 (9 : Int32) psk T27.heap n0 Z27 V_br27 V_b11 hlpsk (by decide)) hZ10 (W 97 rfl) (W 2 rfl) (by decide) (by decide)) (g := (mkF m 324 #[.val (.int p1), .val (.int p2), .val (.int p3), .val (.int nlv), .val (.int klv), .val (.int cA), .val (.int cB), .val (.int dA), .val (.int dB), .val (.ref b5), .val (.ref b8), .val (.ref b11), .val (.int (psk.length.toInt32)), .val (.ref br27)] [(.int (psk.length.toInt32)), (.int (9 : Int32)), (.ref b11), (.ref br27)])) rfl (by rw [hml]; rfl) (argsL := [(.ref br27), (.ref b11), (.int (9 : Int32)), (.int (psk.length.toInt32))]) (rest := []) (lenOf pd_25 rfl) rfl (by show 2 * 0 + _ ≤ _; exact Nat.le_of_eq rfl) (hb hby at_324) (fun _ _ => ⟨rfl, e36, (by decide : 18 + 0 ≤ _), (by decide : 76 + 0 ≤ _)⟩)
  dsimp only [Pt.U, Pt.locs, Pt.cells, Pt.slots] at X37 l37 y37 z37 st37 hQ37
  subst l37 y37 z37
  obtain ⟨rfl, N37q, e37⟩ := hQ37
  have N37 := Fr.app N36 N37q
  refine Gl.pre (fun _ k => st37 _ k) ?_
  refine Y.ifNo X37 hx (hb hby at_327) rfl ((if0 _ _).trans (feq (show ¬ ((1 : Int32) = (0 : Int32)) from (by decide))).1) ?_
  refine Y.aload X37 hx (hb hby at_330) rfl rfl ?_
  refine Y.aload X37 hx (hb hby at_332) rfl rfl ?_
  refine Y.bipush X37 hx (hb hby at_334) ?_
  refine Y.iload X37 hx (hb hby at_336) rfl ?_
  obtain ⟨_, _, ⟨T38, L38, k38, n38⟩, -, X38, ⟨Lc38, hQ38, l38, y38, z38⟩, st38⟩ := Jvm.LawKit.callS X37 hx (y := (⟨"com/example/hermod/hermod/RecordKeysItemPinLaw", "at", "([B[BII)Z"⟩ : MethodName)) hown10 (mvT hZ10 (W 95 rfl)) (mvT hZ10 (W 96 rfl)) (mvT hZ10 (W 2 rfl)) (mvT hZ10 (W 97 rfl)) (by decide) (backOf (W := 0) (rmat l Z a0 hw [] br27 b11 (10 : Int32) psk T27.heap n0 Z27 V_br27 V_b11 hlpsk (by decide)) hZ10 (W 97 rfl) (W 2 rfl) (by decide) (by decide)) (g := (mkF m 338 #[.val (.int p1), .val (.int p2), .val (.int p3), .val (.int nlv), .val (.int klv), .val (.int cA), .val (.int cB), .val (.int dA), .val (.int dB), .val (.ref b5), .val (.ref b8), .val (.ref b11), .val (.int (psk.length.toInt32)), .val (.ref br27)] [(.int (psk.length.toInt32)), (.int (10 : Int32)), (.ref b11), (.ref br27)])) rfl (by rw [hml]; rfl) (argsL := [(.ref br27), (.ref b11), (.int (10 : Int32)), (.int (psk.length.toInt32))]) (rest := []) (lenOf pd_25 rfl) rfl (by show 2 * 0 + _ ≤ _; exact Nat.le_of_eq rfl) (hb hby at_338) (fun _ _ => ⟨rfl, e37, (by decide : 18 + 0 ≤ _), (by decide : 76 + 0 ≤ _)⟩)
  dsimp only [Pt.U, Pt.locs, Pt.cells, Pt.slots] at X38 l38 y38 z38 st38 hQ38
  subst l38 y38 z38
  obtain ⟨rfl, N38q, e38⟩ := hQ38
  have N38 := Fr.app N37 N38q
  refine Gl.pre (fun _ k => st38 _ k) ?_
  refine Y.ifNo X38 hx (hb hby at_341) rfl ((if0 _ _).trans (feq (show ¬ ((1 : Int32) = (0 : Int32)) from (by decide))).1) ?_
  refine Y.aload X38 hx (hb hby at_344) rfl rfl ?_
  refine Y.aload X38 hx (hb hby at_346) rfl rfl ?_
  refine Y.bipush X38 hx (hb hby at_348) ?_
  refine Y.iload X38 hx (hb hby at_350) rfl ?_
  obtain ⟨_, _, ⟨T39, L39, k39, n39⟩, -, X39, ⟨Lc39, hQ39, l39, y39, z39⟩, st39⟩ := Jvm.LawKit.callS X38 hx (y := (⟨"com/example/hermod/hermod/RecordKeysItemPinLaw", "at", "([B[BII)Z"⟩ : MethodName)) hown10 (mvT hZ10 (W 95 rfl)) (mvT hZ10 (W 96 rfl)) (mvT hZ10 (W 2 rfl)) (mvT hZ10 (W 97 rfl)) (by decide) (backOf (W := 0) (rmat l Z a0 hw [] br27 b11 (11 : Int32) psk T27.heap n0 Z27 V_br27 V_b11 hlpsk (by decide)) hZ10 (W 97 rfl) (W 2 rfl) (by decide) (by decide)) (g := (mkF m 352 #[.val (.int p1), .val (.int p2), .val (.int p3), .val (.int nlv), .val (.int klv), .val (.int cA), .val (.int cB), .val (.int dA), .val (.int dB), .val (.ref b5), .val (.ref b8), .val (.ref b11), .val (.int (psk.length.toInt32)), .val (.ref br27)] [(.int (psk.length.toInt32)), (.int (11 : Int32)), (.ref b11), (.ref br27)])) rfl (by rw [hml]; rfl) (argsL := [(.ref br27), (.ref b11), (.int (11 : Int32)), (.int (psk.length.toInt32))]) (rest := []) (lenOf pd_25 rfl) rfl (by show 2 * 0 + _ ≤ _; exact Nat.le_of_eq rfl) (hb hby at_352) (fun _ _ => ⟨rfl, e38, (by decide : 18 + 0 ≤ _), (by decide : 76 + 0 ≤ _)⟩)
  dsimp only [Pt.U, Pt.locs, Pt.cells, Pt.slots] at X39 l39 y39 z39 st39 hQ39
  subst l39 y39 z39
  obtain ⟨rfl, N39q, e39⟩ := hQ39
  have N39 := Fr.app N38 N39q
  refine Gl.pre (fun _ k => st39 _ k) ?_
  refine Y.ifNo X39 hx (hb hby at_355) rfl ((if0 _ _).trans (feq (show ¬ ((1 : Int32) = (0 : Int32)) from (by decide))).1) ?_
  refine Y.aload X39 hx (hb hby at_358) rfl rfl ?_
  refine Y.aload X39 hx (hb hby at_360) rfl rfl ?_
  refine Y.bipush X39 hx (hb hby at_362) ?_
  refine Y.iload X39 hx (hb hby at_364) rfl ?_
  obtain ⟨_, _, ⟨T40, L40, k40, n40⟩, -, X40, ⟨Lc40, hQ40, l40, y40, z40⟩, st40⟩ := Jvm.LawKit.callS X39 hx (y := (⟨"com/example/hermod/hermod/RecordKeysItemPinLaw", "at", "([B[BII)Z"⟩ : MethodName)) hown10 (mvT hZ10 (W 95 rfl)) (mvT hZ10 (W 96 rfl)) (mvT hZ10 (W 2 rfl)) (mvT hZ10 (W 97 rfl)) (by decide) (backOf (W := 0) (rmat l Z a0 hw [] br27 b11 (12 : Int32) psk T27.heap n0 Z27 V_br27 V_b11 hlpsk (by decide)) hZ10 (W 97 rfl) (W 2 rfl) (by decide) (by decide)) (g := (mkF m 366 #[.val (.int p1), .val (.int p2), .val (.int p3), .val (.int nlv), .val (.int klv), .val (.int cA), .val (.int cB), .val (.int dA), .val (.int dB), .val (.ref b5), .val (.ref b8), .val (.ref b11), .val (.int (psk.length.toInt32)), .val (.ref br27)] [(.int (psk.length.toInt32)), (.int (12 : Int32)), (.ref b11), (.ref br27)])) rfl (by rw [hml]; rfl) (argsL := [(.ref br27), (.ref b11), (.int (12 : Int32)), (.int (psk.length.toInt32))]) (rest := []) (lenOf pd_25 rfl) rfl (by show 2 * 0 + _ ≤ _; exact Nat.le_of_eq rfl) (hb hby at_366) (fun _ _ => ⟨rfl, e39, (by decide : 18 + 0 ≤ _), (by decide : 76 + 0 ≤ _)⟩)
  dsimp only [Pt.U, Pt.locs, Pt.cells, Pt.slots] at X40 l40 y40 z40 st40 hQ40
  subst l40 y40 z40
  obtain ⟨rfl, N40q, e40⟩ := hQ40
  have N40 := Fr.app N39 N40q
  refine Gl.pre (fun _ k => st40 _ k) ?_
  refine Y.ifNo X40 hx (hb hby at_369) rfl ((if0 _ _).trans (feq (show ¬ ((1 : Int32) = (0 : Int32)) from (by decide))).1) ?_
  refine Y.iconst X40 hx (hb hby at_372) ?_
  refine Y.goto X40 hx (pc0 := 373) (pc' := 377) rfl (hb hby at_373) (by decide) (by decide) ?_
  rw [hPP]
  refine own_finNW (Q := (Q0 Z p1 p2 p3 cs ut h0 n0)) (Z := Z) (EL := own_EL) X40 hx hlk hS10 (by rw [e40]; exact hk27) Bd.returns (t := .boolean) (z' := (1 : Int32)) (by simp) (by decide) (hb hby at_377) ?_ (by rw [hh, e40]; exact CR27.trans (CHv.at X40 hZ10 hEL CR27.1)) (by decide) (by decide)
  show Q0 Z p1 p2 p3 cs ut h0 n0 _ T40.heap _
  rw [e40]
  exact ⟨rfl, N40⟩
set_option maxRecDepth 65536 in
set_option maxHeartbeats 40000000 in
theorem comes_1 {Post : Tables → Env → Array Value → State → Outcome → State → Prop} (hpost : ∀ tb e args s v u, (limb_1_1.after args s (.returned v) u = true ∧ limb_1_2.after args s (.returned v) u = true ∧ True) → ReturnedEndW s (.returned v) u (Jvm.fieldLocs frame_1_writes args s ++ Jvm.arrayLocs frame_1_arrays args s ++ Jvm.staticLocs frame_1_statics s) 40 1280 → Post tb e args s (.returned v) u) :
    ArmFor flags0 classFile x code maxLocals ret World_1 tables_1 room_1 Calls_1 rest_1 Pre_1 Post := by
  intro l hfl _ _ p e ha hc hk s m args below hf hA hF happ hP
  obtain ⟨hcalls, hrest, hpre⟩ := hP
  obtain ⟨-, -, -, hnamed, -, -, -, hat⟩ := (Spec.applies_iff hf).mp happ
  obtain ⟨hg, hn⟩ := and_e (Cond.before_iff.mp (show (Jvm.Cond.and given_1 narrow_1).before args s = true from hpre))
  obtain ⟨gc, gr0⟩ := and_e hg
  obtain ⟨ga0, gr1⟩ := and_e gr0
  obtain ⟨ga1, gr2⟩ := and_e gr1
  obtain ⟨w0, w1, w2, rfl⟩ : ∃ w0 w1 w2 : Value, args = #[w0, w1, w2] := by
    have hs : args.size = 3 := by simpa [Cond.value, given_1] using gc
    obtain ⟨L⟩ := args
    match L, hs with
    | [w0, w1, w2], _ => exact ⟨w0, w1, w2, rfl⟩
  have hw := fun d (hd : d ∈ tables_1) => atoms_spec (ws := Jvm.Cond.code x code maxLocals ret :: tables_1) hat d (List.mem_cons_of_mem _ hd)
  have hfit : Fit s := fun {y c} hc i hi => by
    obtain ⟨ha, rfl⟩ := Array.getElem?_eq_some_iff.mp hc
    have q := List.all_eq_true.mp ((Array.all_eq_true_iff_forall_mem.mp hF) _ (Array.getElem_mem ha)) i (List.mem_range.mpr hi)
    simpa [Array.getElem?_eq_getElem hi] using q
  obtain ⟨i0, ei0⟩ := is_v ga0
  obtain rfl : w0 = (.int i0) := Option.some.inj ei0
  obtain ⟨i1, ei1⟩ := is_v ga1
  obtain rfl : w1 = (.int i1) := Option.some.inj ei1
  obtain ⟨i2, ei2⟩ := is_v gr2
  obtain rfl : w2 = (.int i2) := Option.some.inj ei2
  obtain ⟨hsets, hown0⟩ := atoms_of _ (rest_1_c_eq ▸ (show rest_1_c.before _ s = true from hrest))
  have n5 := not_v (Cond.before_iff.mp (hsets _ (List.mem_of_getElem? (i := 2) rfl)))
  obtain ⟨cs, ecs⟩ := is_v (Cond.before_iff.mp (hsets _ (List.mem_of_getElem? (i := 1) rfl)))
  have SBC : Sta s s.heap "java/lang/String" "COMPACT_STRINGS" "Z" (.int cs) := Sta.start ecs (Or.inl (hsets _ (List.mem_of_getElem? (i := 0) rfl)))
  have hcs : ¬ (cs = (0 : Int32)) := gotF (Cond.eq_ints ecs (Term.int_eval (0))) n5
  obtain ⟨ut, eut⟩ := exa_v (Cond.before_iff.mp (hsets _ (List.mem_of_getElem? (i := 17) rfl)))
  have SIN : Sta s s.heap "sun/nio/cs/UTF_8" "INSTANCE" "Lsun/nio/cs/UTF_8;" (.ref ut) := Sta.start eut (Or.inl (hsets _ (List.mem_of_getElem? (i := 12) rfl)))
  have SUT : Sta s s.heap "java/nio/charset/StandardCharsets" "UTF_8" "Ljava/nio/charset/Charset;" (.ref ut) := Sta.start (own_evR eut (Cond.before_iff.mp (hsets _ (List.mem_of_getElem? (i := 13) rfl)))) (Or.inl (hsets _ (List.mem_of_getElem? (i := 10) rfl)))
  have SAD : Sta s s.heap "java/lang/StringUTF16" "$assertionsDisabled" "Z" (.int (1 : Int32)) := Sta.start (own_statI (Cond.before_iff.mp (hsets _ (List.mem_of_getElem? (i := 21) rfl)))) (Or.inl (hsets _ (List.mem_of_getElem? (i := 20) rfl)))
  have SHI : Sta s s.heap "java/lang/StringUTF16" "HI_BYTE_SHIFT" "I" (.int (0 : Int32)) := Sta.start (own_statI (Cond.before_iff.mp (hsets _ (List.mem_of_getElem? (i := 24) rfl)))) (Or.inl (hsets _ (List.mem_of_getElem? (i := 23) rfl)))
  have SLO : Sta s s.heap "java/lang/StringUTF16" "LO_BYTE_SHIFT" "I" (.int (8 : Int32)) := Sta.start (own_statI (Cond.before_iff.mp (hsets _ (List.mem_of_getElem? (i := 27) rfl)))) (Or.inl (hsets _ (List.mem_of_getElem? (i := 26) rfl)))
  have hEL : EW s _ own_EL := (EW.cons (hw _ (List.mem_of_getElem? (i := 39) rfl)) (by decide) EW.nil)
  have hCH : CHv s own_EL s.vm s.heap := CHv.start hEL (fun q hq => hcalls.1 q hq) (hsets _ (List.mem_of_getElem? (i := 2) rfl)) (hw _ (List.mem_of_getElem? (i := 28) rfl)) (hw _ (List.mem_of_getElem? (i := 7) rfl))
  obtain ⟨n, o, h1, h2, h3, _, L, rfl, ⟨rfl, N⟩, -, hq⟩ := rm0 l s _ hw tables_1 i0 i1 i2 cs ut s.heap s.heap.size (Nat.le_refl _) SUT SIN SBC hcs SAD SHI SLO (Old.start s) hEL p e ha hc hk s m _ below hf ((Spec.applies_iff_loose hf).mp happ).1 ⟨rfl, State.Warmed39.refl s, rfl, hCH, all0⟩ trivial
  refine ⟨n, _, h1, h2, h3, hpost _ _ _ _ _ _ ⟨Cond.after_iff.mpr rfl, Cond.after_iff.mpr (eq_i res_at (Term.int_eval (1)) rfl), trivial⟩ ⟨hq.1, hq.2.1, hq.2.2.1, (hq.2.2.2.sift fun y hy => Or.inr (N y hy)).mono (by decide) (by decide)⟩⟩
theorem main_1_1 : Claimed_1_1 := comes_1 fun _ _ _ _ _ _ h hF => ⟨h.1, hF⟩
theorem main_1_2 : Claimed_1_2 := comes_1 fun _ _ _ _ _ _ h hF => ⟨h.2.1, hF⟩
end Jvm.Pilot.@@N@@
namespace Jvm.Pilot.@@N@@
open Jvm Jvm.ClassFile Sem Op Lib Jvm.Free Jvm.Stand Jvm.Pilot.@@N@@.Jvm.D
/-! MADE BY PROGRAM (witnessworld.py) out of the Statement's table words and the real class files: 30 classes; the members and pool entries that the words name. The judged class is class 1, her method 5. -/
namespace start1
open Jvm.ClassFile
def u (s : String) : CpInfo := .utf8 (stringToUtf16 s)
/-- a pool by its gaps: so many unusable entries, then the entry; so many at the end -/
def gap : Nat → List CpInfo → List CpInfo
  | 0, r => r
  | n + 1, r => .unusable :: gap n r
def poolList (es : List (Nat × CpInfo)) (last : Nat) : List CpInfo := es.foldr (fun e r => gap e.1 (e.2 :: r)) (gap last [])
def pool (es : List (Nat × CpInfo)) (last : Nat) : Array CpInfo := ⟨poolList es last⟩
def fileOf (pool : Array CpInfo) (this : Nat) (attrs : Array Attribute := #[]) (ms : Array MethodInfo := #[]) (fl : Nat := 33) (sup : Nat := 0) (ifs : Array Nat := #[]) (fds : Array FieldInfo := #[]) : ClassFile where
  minorVersion := 0
  majorVersion := 65
  constantPool := pool
  accessFlags := fl
  thisClass := this
  superClass := sup
  interfaces := ifs
  fields := fds
  methods := ms
  attributes := attrs
def plain (name : String) (sup : Option ClassId) : Class where
  name := name
  kind := .ordinary
  loader := none
  accessFlags := 33
  super := sup
  interfaces := #[]
  cf := none
  fields := #[]
  methods := #[]
  instanceTypes := #[]
  staticTypes := #[]
  resolved := #[]
  callSites := []
  init := .initialized
  statics := none
  mirror := none

def pool0 : Array CpInfo := pool [(5, u "<init>"), (0, u "()V"), (1, .class_ 10), (1, u "java/lang/Object"), (85, u "clone"), (0, u "()Ljava/lang/Object;")] 26

def k0c0 : Code := { maxStack := 0, maxLocals := 1, code := object_method_1_code, exceptionTable := #[], attributes := #[] }
def k0m0 : Method := { name := "<init>", desc := "()V", sig := { parameters := [], returnType := none }, accessFlags := 1, code := some k0c0 }
def k0m1 : Method := { name := "clone", desc := "()Ljava/lang/Object;", sig := { parameters := [], returnType := some (.object "java/lang/Object") }, accessFlags := 260, code := none }
/-- java/lang/Object -/
def k0 : Class := { plain "java/lang/Object" none with
  accessFlags := 33
  interfaces := #[]
  cf := some (fileOf pool0 8 #[] #[{ accessFlags := 1, nameIndex := 5, descriptorIndex := 6, attributes := #[] }, { accessFlags := 260, nameIndex := 96, descriptorIndex := 97, attributes := #[] }] 33 0 #[] #[])
  fields := #[]
  methods := #[k0m0, k0m1]
  instanceTypes := #[]
  staticTypes := #[]
  resolved := Array.replicate 124 none
  statics := none }

def pool1 : Array CpInfo := pool [(2, .class_ 4), (1, u "java/lang/Object"), (0, u "<init>"), (0, u "()V"), (0, .integer 65535), (0, .integer 55296), (0, .integer 57343), (0, .methodref 11 12), (0, .class_ 13), (0, .nameAndType 14 15), (0, u "com/example/hermod/hermod/RecordKeysItemPinLaw"), (0, u "pick"), (0, u "(I)C"), (0, .class_ 17), (0, u "java/lang/String"), (0, .methodref 11 19), (0, .nameAndType 20 21), (0, u "chars"), (0, u "(ICC)[C"), (0, .methodref 16 23), (0, .nameAndType 5 24), (0, u "([C)V"), (0, .methodref 11 26), (0, .nameAndType 27 28), (0, u "put"), (0, u "([BIC)I"), (0, .methodref 30 31), (0, .class_ 32), (0, .nameAndType 33 34), (0, u "com/example/hermod/hermod/RecordKeys"), (0, u "item"), (0, u "(Ljava/lang/String;Ljava/lang/String;)[B"), (0, .methodref 11 36), (0, .nameAndType 37 38), (0, u "at"), (0, u "([B[BII)Z"), (3, u "law"), (0, u "(III)Z")] 4

def k1m0 : Method := { name := "<init>", desc := "()V", sig := { parameters := [], returnType := none }, accessFlags := 2, code := none }
def k1c1 : Code := { maxStack := 2, maxLocals := 2, code := method_2_code, exceptionTable := #[], attributes := #[] }
def k1m1 : Method := { name := "pick", desc := "(I)C", sig := { parameters := [.int], returnType := some .char }, accessFlags := 10, code := some k1c1 }
def k1c2 : Code := { maxStack := 4, maxLocals := 3, code := method_3_code, exceptionTable := #[], attributes := #[] }
def k1m2 : Method := { name := "chars", desc := "(ICC)[C", sig := { parameters := [.int, .char, .char], returnType := some (.array .char) }, accessFlags := 10, code := some k1c2 }
def k1c3 : Code := { maxStack := 5, maxLocals := 4, code := method_4_code, exceptionTable := #[], attributes := #[] }
def k1m3 : Method := { name := "put", desc := "([BIC)I", sig := { parameters := [(.array .byte), .int, .char], returnType := some .int }, accessFlags := 10, code := some k1c3 }
def k1c4 : Code := { maxStack := 3, maxLocals := 4, code := method_5_code, exceptionTable := #[], attributes := #[] }
def k1m4 : Method := { name := "at", desc := "([B[BII)Z", sig := { parameters := [(.array .byte), (.array .byte), .int, .int], returnType := some .boolean }, accessFlags := 10, code := some k1c4 }
def k1c5 : Code := { maxStack := 5, maxLocals := 14, code := code, exceptionTable := #[], attributes := #[] }
def k1m5 : Method := { name := "law", desc := "(III)Z", sig := { parameters := [.int, .int, .int], returnType := some .boolean }, accessFlags := 9, code := some k1c5 }
/-- com/example/hermod/hermod/RecordKeysItemPinLaw -/
def k1 : Class := { plain "com/example/hermod/hermod/RecordKeysItemPinLaw" (some 0) with
  accessFlags := 49
  interfaces := #[]
  cf := some (fileOf pool1 11 #[] #[{ accessFlags := 2, nameIndex := 5, descriptorIndex := 6, attributes := #[] }, { accessFlags := 10, nameIndex := 14, descriptorIndex := 15, attributes := #[] }, { accessFlags := 10, nameIndex := 20, descriptorIndex := 21, attributes := #[] }, { accessFlags := 10, nameIndex := 27, descriptorIndex := 28, attributes := #[] }, { accessFlags := 10, nameIndex := 37, descriptorIndex := 38, attributes := #[] }, { accessFlags := 9, nameIndex := 42, descriptorIndex := 43, attributes := #[] }] 49 2 #[] #[])
  fields := #[]
  methods := #[k1m0, k1m1, k1m2, k1m3, k1m4, k1m5]
  instanceTypes := #[]
  staticTypes := #[]
  resolved := Array.replicate 48 none
  statics := none }

def pool2 : Array CpInfo := pool [(1, .class_ 2), (0, u "java/io/Serializable"), (0, .class_ 4), (0, u "java/lang/Object")] 2

/-- java/io/Serializable -/
def k2 : Class := { plain "java/io/Serializable" (some 0) with
  accessFlags := 1537
  interfaces := #[]
  cf := some (fileOf pool2 1 #[] #[] 1537 3 #[] #[])
  fields := #[]
  methods := #[]
  instanceTypes := #[]
  staticTypes := #[]
  resolved := Array.replicate 7 none
  statics := none }

def pool3 : Array CpInfo := pool [(1, .class_ 2), (0, u "java/lang/Comparable"), (0, .class_ 4), (0, u "java/lang/Object")] 7

/-- java/lang/Comparable -/
def k3 : Class := { plain "java/lang/Comparable" (some 0) with
  accessFlags := 1537
  interfaces := #[]
  cf := some (fileOf pool3 1 #[] #[] 1537 3 #[] #[])
  fields := #[]
  methods := #[]
  instanceTypes := #[]
  staticTypes := #[]
  resolved := Array.replicate 12 none
  statics := none }

def pool4 : Array CpInfo := pool [(2, .class_ 4), (1, u "java/lang/CharSequence"), (42, .class_ 48), (0, u "java/lang/CharSequence$1CodePointIterator"), (10, .class_ 60), (0, u "java/lang/CharSequence$1CharIterator"), (5, .class_ 67), (0, u "java/lang/Object")] 63

/-- java/lang/CharSequence -/
def k4 : Class := { plain "java/lang/CharSequence" (some 0) with
  accessFlags := 1537
  interfaces := #[]
  cf := some (fileOf pool4 2 #[.nestMembers #[47, 59]] #[] 1537 66 #[] #[])
  fields := #[]
  methods := #[]
  instanceTypes := #[]
  staticTypes := #[]
  resolved := Array.replicate 131 none
  statics := none }

def pool5 : Array CpInfo := pool [(1, .class_ 2), (0, u "java/lang/constant/Constable"), (0, .class_ 4), (0, u "java/lang/Object")] 6

/-- java/lang/constant/Constable -/
def k5 : Class := { plain "java/lang/constant/Constable" (some 0) with
  accessFlags := 1537
  interfaces := #[]
  cf := some (fileOf pool5 1 #[] #[] 1537 3 #[] #[])
  fields := #[]
  methods := #[]
  instanceTypes := #[]
  staticTypes := #[]
  resolved := Array.replicate 11 none
  statics := none }

def pool6 : Array CpInfo := pool [(1, .class_ 2), (0, u "java/lang/constant/ConstantDesc"), (0, .class_ 4), (0, u "java/lang/Object")] 32

/-- java/lang/constant/ConstantDesc -/
def k6 : Class := { plain "java/lang/constant/ConstantDesc" (some 0) with
  accessFlags := 1537
  interfaces := #[]
  cf := some (fileOf pool6 1 #[] #[] 1537 3 #[] #[])
  fields := #[]
  methods := #[]
  instanceTypes := #[]
  staticTypes := #[]
  resolved := Array.replicate 37 none
  statics := none }

def pool7 : Array CpInfo := pool [(1, .methodref 2 3), (0, .class_ 4), (0, .nameAndType 5 6), (0, u "java/lang/Object"), (0, u "<init>"), (0, u "()V"), (0, .string 8), (0, u ""), (0, .fieldref 10 11), (0, .class_ 12), (0, .nameAndType 13 14), (0, u "java/lang/String"), (0, u "value"), (0, u "[B"), (0, .fieldref 10 16), (0, .nameAndType 17 18), (0, u "coder"), (0, u "B"), (2, u "hash"), (0, u "I"), (2, u "hashIsZero"), (0, u "Z"), (0, .methodref 10 28), (0, .nameAndType 5 29), (0, u "([CIILjava/lang/Void;)V"), (8, .fieldref 10 39), (0, .nameAndType 40 26), (0, u "COMPACT_STRINGS"), (1, .class_ 44), (1, u "java/lang/StringUTF16"), (0, u "compress"), (1, .methodref 42 48), (0, .nameAndType 49 50), (0, u "coderFromArrayLen"), (0, u "([BI)B"), (4, .class_ 57), (1, u "java/util/Arrays"), (2, .methodref 42 61), (0, .nameAndType 62 63), (0, u "newBytesFor"), (0, u "(I)[B"), (22, .fieldref 87 88), (0, .class_ 89), (0, .nameAndType 90 91), (0, u "sun/nio/cs/UTF_8"), (0, u "INSTANCE"), (0, u "Lsun/nio/cs/UTF_8;"), (1, .class_ 95), (1, u "java/lang/StringCoding"), (6, .methodref 55 103), (0, .nameAndType 104 105), (0, u "copyOf"), (0, u "([BI)[B"), (22, .methodref 93 129), (0, .nameAndType 130 131), (0, u "hasNegatives"), (0, u "([BII)Z"), (45, .methodref 42 178), (0, .nameAndType 45 179), (0, u "([CII)[B"), (72, .methodref 10 253), (0, .nameAndType 254 255), (0, u "encodeUTF8"), (0, u "(B[BZ)[B"), (23, .methodref 280 281), (0, .class_ 14), (0, .nameAndType 282 283), (0, u "clone"), (0, u "()Ljava/lang/Object;"), (33, u "encode"), (17, .methodref 10 336), (0, .nameAndType 17 337), (0, u "()B"), (22, .methodref 42 361), (0, .nameAndType 362 363), (0, u "getChar"), (0, u "([BI)C"), (1, .class_ 367), (1, u "java/lang/Character"), (1, u "(C)Z"), (34, .methodref 365 405), (0, .nameAndType 406 369), (0, u "isSurrogate"), (66, .methodref 10 474), (0, .nameAndType 475 476), (0, u "encodeUTF8_UTF16"), (0, u "([BZ)[B"), (55, u "getBytes"), (2, .methodref 10 536), (0, .nameAndType 317 537), (0, u "(Ljava/nio/charset/Charset;B[B)[B"), (37, .class_ 576), (0, u "java/lang/CharSequence"), (22, u "CASE_INSENSITIVE_ORDER"), (0, u "Ljava/util/Comparator;"), (409, u "([C)V"), (90, u "serialPersistentFields"), (0, u "[Ljava/io/ObjectStreamField;"), (0, .class_ 1104), (0, u "java/lang/String$CaseInsensitiveComparator"), (1, .class_ 1107), (0, u "java/io/Serializable"), (0, .class_ 1109), (0, u "java/lang/Comparable"), (0, .class_ 1111), (0, u "java/lang/constant/Constable"), (0, .class_ 1113), (0, u "java/lang/constant/ConstantDesc"), (2, u "serialVersionUID"), (0, u "J"), (3, u "REPL"), (0, u "C"), (2, u "LATIN1"), (1, u "UTF16"), (117, u "(Ljava/nio/charset/Charset;)[B")] 205

def k7m0 : Method := { name := "<init>", desc := "()V", sig := { parameters := [], returnType := none }, accessFlags := 1, code := none }
def k7c1 : Code := { maxStack := 5, maxLocals := 2, code := jdk_42_method_3_code, exceptionTable := #[], attributes := #[] }
def k7m1 : Method := { name := "<init>", desc := "([C)V", sig := { parameters := [(.array .char)], returnType := none }, accessFlags := 1, code := some k7c1 }
def k7c2 : Code := { maxStack := 4, maxLocals := 3, code := jdk_42_method_18_code, exceptionTable := #[], attributes := #[] }
def k7m2 : Method := { name := "encode", desc := "(Ljava/nio/charset/Charset;B[B)[B", sig := { parameters := [(.object "java/nio/charset/Charset"), .byte, (.array .byte)], returnType := some (.array .byte) }, accessFlags := 10, code := some k7c2 }
def k7c3 : Code := { maxStack := 5, maxLocals := 9, code := jdk_42_method_46_code, exceptionTable := #[], attributes := #[] }
def k7m3 : Method := { name := "encodeUTF8", desc := "(B[BZ)[B", sig := { parameters := [.byte, (.array .byte), .boolean], returnType := some (.array .byte) }, accessFlags := 10, code := some k7c3 }
def k7c4 : Code := { maxStack := 5, maxLocals := 9, code := jdk_42_method_47_code, exceptionTable := #[], attributes := #[] }
def k7m4 : Method := { name := "encodeUTF8_UTF16", desc := "([BZ)[B", sig := { parameters := [(.array .byte), .boolean], returnType := some (.array .byte) }, accessFlags := 10, code := some k7c4 }
def k7c5 : Code := { maxStack := 3, maxLocals := 2, code := jdk_42_method_64_code, exceptionTable := #[], attributes := #[] }
def k7m5 : Method := { name := "getBytes", desc := "(Ljava/nio/charset/Charset;)[B", sig := { parameters := [(.object "java/nio/charset/Charset")], returnType := some (.array .byte) }, accessFlags := 1, code := some k7c5 }
def k7c6 : Code := { maxStack := 4, maxLocals := 6, code := jdk_42_method_149_code, exceptionTable := #[], attributes := #[] }
def k7m6 : Method := { name := "<init>", desc := "([CIILjava/lang/Void;)V", sig := { parameters := [(.array .char), .int, .int, (.object "java/lang/Void")], returnType := none }, accessFlags := 2, code := some k7c6 }
def k7c7 : Code := { maxStack := 1, maxLocals := 1, code := jdk_42_method_152_code, exceptionTable := #[], attributes := #[] }
def k7m7 : Method := { name := "coder", desc := "()B", sig := { parameters := [], returnType := some .byte }, accessFlags := 0, code := some k7c7 }
/-- java/lang/String -/
def k7 : Class := { plain "java/lang/String" (some 0) with
  accessFlags := 49
  interfaces := #[2, 3, 4, 5, 6]
  cf := some (fileOf pool7 10 #[.nestMembers #[1103]] #[{ accessFlags := 1, nameIndex := 5, descriptorIndex := 6, attributes := #[] }, { accessFlags := 1, nameIndex := 5, descriptorIndex := 1010, attributes := #[] }, { accessFlags := 10, nameIndex := 317, descriptorIndex := 537, attributes := #[] }, { accessFlags := 10, nameIndex := 254, descriptorIndex := 255, attributes := #[] }, { accessFlags := 10, nameIndex := 475, descriptorIndex := 476, attributes := #[] }, { accessFlags := 1, nameIndex := 532, descriptorIndex := 1245, attributes := #[] }, { accessFlags := 2, nameIndex := 5, descriptorIndex := 29, attributes := #[] }, { accessFlags := 0, nameIndex := 17, descriptorIndex := 337, attributes := #[] }] 49 2 #[1106, 1108, 575, 1110, 1112] #[{ accessFlags := 18, nameIndex := 13, descriptorIndex := 14, attributes := #[] }, { accessFlags := 18, nameIndex := 17, descriptorIndex := 18, attributes := #[] }, { accessFlags := 2, nameIndex := 21, descriptorIndex := 22, attributes := #[] }, { accessFlags := 2, nameIndex := 25, descriptorIndex := 26, attributes := #[] }, { accessFlags := 26, nameIndex := 1116, descriptorIndex := 1117, attributes := #[] }, { accessFlags := 24, nameIndex := 40, descriptorIndex := 26, attributes := #[] }, { accessFlags := 26, nameIndex := 1101, descriptorIndex := 1102, attributes := #[] }, { accessFlags := 26, nameIndex := 1121, descriptorIndex := 1122, attributes := #[] }, { accessFlags := 25, nameIndex := 599, descriptorIndex := 600, attributes := #[] }, { accessFlags := 24, nameIndex := 1125, descriptorIndex := 18, attributes := #[] }, { accessFlags := 24, nameIndex := 1127, descriptorIndex := 18, attributes := #[] }])
  fields := #[{ name := "value", type := (.array .byte), accessFlags := 18, slot := 0, constantValue := 0 }, { name := "coder", type := .byte, accessFlags := 18, slot := 1, constantValue := 0 }, { name := "hash", type := .int, accessFlags := 2, slot := 2, constantValue := 0 }, { name := "hashIsZero", type := .boolean, accessFlags := 2, slot := 3, constantValue := 0 }, { name := "serialVersionUID", type := .long, accessFlags := 26, slot := 0, constantValue := 0 }, { name := "COMPACT_STRINGS", type := .boolean, accessFlags := 24, slot := 1, constantValue := 0 }, { name := "serialPersistentFields", type := (.array (.object "java/io/ObjectStreamField")), accessFlags := 26, slot := 2, constantValue := 0 }, { name := "REPL", type := .char, accessFlags := 26, slot := 3, constantValue := 0 }, { name := "CASE_INSENSITIVE_ORDER", type := (.object "java/util/Comparator"), accessFlags := 25, slot := 4, constantValue := 0 }, { name := "LATIN1", type := .byte, accessFlags := 24, slot := 5, constantValue := 0 }, { name := "UTF16", type := .byte, accessFlags := 24, slot := 6, constantValue := 0 }]
  methods := #[k7m0, k7m1, k7m2, k7m3, k7m4, k7m5, k7m6, k7m7]
  instanceTypes := #[(.array .byte), .byte, .int, .boolean]
  staticTypes := #[.long, .boolean, (.array (.object "java/io/ObjectStreamField")), .char, (.object "java/util/Comparator"), .byte, .byte]
  resolved := Array.replicate 1451 none
  statics := some 0 }

def pool8 : Array CpInfo := pool [(6, .class_ 8), (1, u "java/lang/Object"), (0, u "<init>"), (0, u "()V"), (0, .methodref 12 13), (0, .class_ 14), (0, .nameAndType 15 16), (0, u "java/lang/StringUTF16"), (0, u "newBytesLength"), (0, u "(I)I"), (3, .integer 1073741823), (23, .fieldref 12 45), (0, .nameAndType 46 47), (0, u "$assertionsDisabled"), (0, u "Z"), (11, .fieldref 12 60), (0, .nameAndType 61 62), (0, u "HI_BYTE_SHIFT"), (0, u "I"), (0, .fieldref 12 64), (0, .nameAndType 65 62), (0, u "LO_BYTE_SHIFT"), (5, .methodref 12 72), (0, .nameAndType 73 74), (0, u "getChar"), (0, u "([BI)C"), (32, .methodref 12 108), (0, .nameAndType 109 110), (0, u "newBytesFor"), (0, u "(I)[B"), (0, .methodref 12 112), (0, .nameAndType 113 114), (0, u "putChar"), (0, u "([BII)V"), (0, .methodref 12 116), (0, .nameAndType 117 118), (0, u "compress"), (0, u "([CI[BII)I"), (0, .methodref 12 120), (0, .nameAndType 121 122), (0, u "toBytes"), (0, u "([CII)[B"), (138, u "coderFromArrayLen"), (0, u "([BI)B"), (106, .class_ 371), (1, u "java/lang/StringUTF16$LinesSpliterator"), (58, u "MAX_LENGTH"), (196, .class_ 628), (0, u "java/lang/StringUTF16$CodePointsSpliterator"), (0, .class_ 630), (0, u "java/lang/StringUTF16$CharsSpliterator")] 4

def k8m0 : Method := { name := "<init>", desc := "()V", sig := { parameters := [], returnType := none }, accessFlags := 0, code := none }
def k8c1 : Code := { maxStack := 1, maxLocals := 1, code := jdk_52_method_2_code, exceptionTable := #[], attributes := #[] }
def k8m1 : Method := { name := "newBytesFor", desc := "(I)[B", sig := { parameters := [.int], returnType := some (.array .byte) }, accessFlags := 9, code := some k8c1 }
def k8c2 : Code := { maxStack := 4, maxLocals := 1, code := jdk_52_method_3_code, exceptionTable := #[], attributes := #[] }
def k8m2 : Method := { name := "newBytesLength", desc := "(I)I", sig := { parameters := [.int], returnType := some .int }, accessFlags := 9, code := some k8c2 }
def k8c3 : Code := { maxStack := 4, maxLocals := 3, code := jdk_52_method_4_code, exceptionTable := #[], attributes := #[] }
def k8m3 : Method := { name := "putChar", desc := "([BII)V", sig := { parameters := [(.array .byte), .int, .int], returnType := none }, accessFlags := 8, code := some k8c3 }
def k8c4 : Code := { maxStack := 3, maxLocals := 2, code := jdk_52_method_5_code, exceptionTable := #[], attributes := #[] }
def k8m4 : Method := { name := "getChar", desc := "([BI)C", sig := { parameters := [(.array .byte), .int], returnType := some .char }, accessFlags := 8, code := some k8c4 }
def k8c5 : Code := { maxStack := 4, maxLocals := 5, code := jdk_52_method_14_code, exceptionTable := #[], attributes := #[] }
def k8m5 : Method := { name := "toBytes", desc := "([CII)[B", sig := { parameters := [(.array .char), .int, .int], returnType := some (.array .byte) }, accessFlags := 9, code := some k8c5 }
def k8c6 : Code := { maxStack := 2, maxLocals := 2, code := jdk_52_method_15_code, exceptionTable := #[], attributes := #[] }
def k8m6 : Method := { name := "coderFromArrayLen", desc := "([BI)B", sig := { parameters := [(.array .byte), .int], returnType := some .byte }, accessFlags := 8, code := some k8c6 }
def k8c7 : Code := { maxStack := 5, maxLocals := 6, code := jdk_52_method_16_code, exceptionTable := #[], attributes := #[] }
def k8m7 : Method := { name := "compress", desc := "([CII)[B", sig := { parameters := [(.array .char), .int, .int], returnType := some (.array .byte) }, accessFlags := 9, code := some k8c7 }
def k8c8 : Code := { maxStack := 3, maxLocals := 7, code := jdk_52_method_21_code, exceptionTable := #[], attributes := #[] }
def k8m8 : Method := { name := "compress", desc := "([CI[BII)I", sig := { parameters := [(.array .char), .int, (.array .byte), .int, .int], returnType := some .int }, accessFlags := 9, code := some k8c8 }
/-- java/lang/StringUTF16 -/
def k8 : Class := { plain "java/lang/StringUTF16" (some 0) with
  accessFlags := 48
  interfaces := #[]
  cf := some (fileOf pool8 12 #[.nestMembers #[627, 629, 369]] #[{ accessFlags := 0, nameIndex := 9, descriptorIndex := 10, attributes := #[] }, { accessFlags := 9, nameIndex := 109, descriptorIndex := 110, attributes := #[] }, { accessFlags := 9, nameIndex := 15, descriptorIndex := 16, attributes := #[] }, { accessFlags := 8, nameIndex := 113, descriptorIndex := 114, attributes := #[] }, { accessFlags := 8, nameIndex := 73, descriptorIndex := 74, attributes := #[] }, { accessFlags := 9, nameIndex := 121, descriptorIndex := 122, attributes := #[] }, { accessFlags := 8, nameIndex := 261, descriptorIndex := 262, attributes := #[] }, { accessFlags := 9, nameIndex := 117, descriptorIndex := 122, attributes := #[] }, { accessFlags := 9, nameIndex := 117, descriptorIndex := 118, attributes := #[] }] 48 6 #[] #[{ accessFlags := 26, nameIndex := 61, descriptorIndex := 62, attributes := #[] }, { accessFlags := 26, nameIndex := 65, descriptorIndex := 62, attributes := #[] }, { accessFlags := 24, nameIndex := 430, descriptorIndex := 62, attributes := #[] }, { accessFlags := 4120, nameIndex := 46, descriptorIndex := 47, attributes := #[] }])
  fields := #[{ name := "HI_BYTE_SHIFT", type := .int, accessFlags := 26, slot := 0, constantValue := 0 }, { name := "LO_BYTE_SHIFT", type := .int, accessFlags := 26, slot := 1, constantValue := 0 }, { name := "MAX_LENGTH", type := .int, accessFlags := 24, slot := 2, constantValue := 0 }, { name := "$assertionsDisabled", type := .boolean, accessFlags := 4120, slot := 3, constantValue := 0 }]
  methods := #[k8m0, k8m1, k8m2, k8m3, k8m4, k8m5, k8m6, k8m7, k8m8]
  instanceTypes := #[]
  staticTypes := #[.int, .int, .int, .boolean]
  resolved := Array.replicate 635 none
  statics := some 1 }

def pool9 : Array CpInfo := pool [(2, .class_ 4), (1, u "java/lang/Object"), (0, u "<init>"), (0, u "()V"), (0, .class_ 8), (0, u "com/example/hermod/hermod/RecordKeys"), (2, u "NONE"), (0, u "[B"), (0, .methodref 7 14), (0, .nameAndType 15 16), (0, u "withSeparator"), (0, u "(Ljava/lang/String;B[B)[B"), (0, .fieldref 18 19), (0, .class_ 20), (0, .nameAndType 21 22), (0, u "java/nio/charset/StandardCharsets"), (0, u "UTF_8"), (0, u "Ljava/nio/charset/Charset;"), (0, .methodref 24 25), (0, .class_ 26), (0, .nameAndType 27 28), (0, u "java/lang/String"), (0, u "getBytes"), (0, u "(Ljava/nio/charset/Charset;)[B"), (0, .methodref 7 30), (0, .nameAndType 31 32), (0, u "item"), (0, u "(Ljava/lang/String;[B)[B"), (0, .methodref 34 35), (0, .class_ 36), (0, .nameAndType 37 38), (0, u "java/lang/System"), (0, u "arraycopy"), (0, u "(Ljava/lang/Object;ILjava/lang/Object;II)V"), (2, u "FIRST_MEMBER"), (2, u "PAST_MEMBERS"), (0, u "MEMBER"), (0, u "B"), (2, u "ITEM"), (1, u "NODE"), (5, u "(Ljava/lang/String;Ljava/lang/String;)[B")] 10

def k9m0 : Method := { name := "<init>", desc := "()V", sig := { parameters := [], returnType := none }, accessFlags := 2, code := none }
def k9c1 : Code := { maxStack := 3, maxLocals := 2, code := prog_2_method_3_code, exceptionTable := #[], attributes := #[] }
def k9m1 : Method := { name := "item", desc := "(Ljava/lang/String;Ljava/lang/String;)[B", sig := { parameters := [(.object "java/lang/String"), (.object "java/lang/String")], returnType := some (.array .byte) }, accessFlags := 8, code := some k9c1 }
def k9c2 : Code := { maxStack := 3, maxLocals := 2, code := prog_2_method_4_code, exceptionTable := #[], attributes := #[] }
def k9m2 : Method := { name := "item", desc := "(Ljava/lang/String;[B)[B", sig := { parameters := [(.object "java/lang/String"), (.array .byte)], returnType := some (.array .byte) }, accessFlags := 8, code := some k9c2 }
def k9c3 : Code := { maxStack := 5, maxLocals := 5, code := prog_2_method_9_code, exceptionTable := #[], attributes := #[] }
def k9m3 : Method := { name := "withSeparator", desc := "(Ljava/lang/String;B[B)[B", sig := { parameters := [(.object "java/lang/String"), .byte, (.array .byte)], returnType := some (.array .byte) }, accessFlags := 10, code := some k9c3 }
/-- com/example/hermod/hermod/RecordKeys -/
def k9 : Class := { plain "com/example/hermod/hermod/RecordKeys" (some 0) with
  accessFlags := 32
  interfaces := #[]
  cf := some (fileOf pool9 7 #[] #[{ accessFlags := 2, nameIndex := 5, descriptorIndex := 6, attributes := #[] }, { accessFlags := 8, nameIndex := 31, descriptorIndex := 57, attributes := #[] }, { accessFlags := 8, nameIndex := 31, descriptorIndex := 32, attributes := #[] }, { accessFlags := 10, nameIndex := 15, descriptorIndex := 16, attributes := #[] }] 32 2 #[] #[{ accessFlags := 24, nameIndex := 45, descriptorIndex := 46, attributes := #[] }, { accessFlags := 24, nameIndex := 49, descriptorIndex := 46, attributes := #[] }, { accessFlags := 24, nameIndex := 51, descriptorIndex := 46, attributes := #[] }, { accessFlags := 24, nameIndex := 41, descriptorIndex := 12, attributes := #[] }, { accessFlags := 24, nameIndex := 44, descriptorIndex := 12, attributes := #[] }, { accessFlags := 26, nameIndex := 11, descriptorIndex := 12, attributes := #[] }])
  fields := #[{ name := "MEMBER", type := .byte, accessFlags := 24, slot := 0, constantValue := 0 }, { name := "ITEM", type := .byte, accessFlags := 24, slot := 1, constantValue := 0 }, { name := "NODE", type := .byte, accessFlags := 24, slot := 2, constantValue := 0 }, { name := "FIRST_MEMBER", type := (.array .byte), accessFlags := 24, slot := 3, constantValue := 0 }, { name := "PAST_MEMBERS", type := (.array .byte), accessFlags := 24, slot := 4, constantValue := 0 }, { name := "NONE", type := (.array .byte), accessFlags := 26, slot := 5, constantValue := 0 }]
  methods := #[k9m0, k9m1, k9m2, k9m3]
  instanceTypes := #[]
  staticTypes := #[.byte, .byte, .byte, (.array .byte), (.array .byte), (.array .byte)]
  resolved := Array.replicate 68 none
  statics := none }

def pool10 : Array CpInfo := pool [(2, .class_ 4), (1, u "java/lang/Object"), (0, u "<init>"), (0, u "()V"), (14, .class_ 23), (1, u "java/nio/charset/StandardCharsets"), (0, u "US_ASCII"), (0, u "Ljava/nio/charset/Charset;"), (7, u "ISO_8859_1"), (7, u "UTF_8"), (5, u "UTF_16BE"), (5, u "UTF_16LE"), (5, u "UTF_16")] 8

def k10m0 : Method := { name := "<init>", desc := "()V", sig := { parameters := [], returnType := none }, accessFlags := 2, code := none }
/-- java/nio/charset/StandardCharsets -/
def k10 : Class := { plain "java/nio/charset/StandardCharsets" (some 0) with
  accessFlags := 49
  interfaces := #[]
  cf := some (fileOf pool10 21 #[] #[{ accessFlags := 2, nameIndex := 5, descriptorIndex := 6, attributes := #[] }] 49 2 #[] #[{ accessFlags := 25, nameIndex := 24, descriptorIndex := 25, attributes := #[] }, { accessFlags := 25, nameIndex := 33, descriptorIndex := 25, attributes := #[] }, { accessFlags := 25, nameIndex := 41, descriptorIndex := 25, attributes := #[] }, { accessFlags := 25, nameIndex := 47, descriptorIndex := 25, attributes := #[] }, { accessFlags := 25, nameIndex := 53, descriptorIndex := 25, attributes := #[] }, { accessFlags := 25, nameIndex := 59, descriptorIndex := 25, attributes := #[] }])
  fields := #[{ name := "US_ASCII", type := (.object "java/nio/charset/Charset"), accessFlags := 25, slot := 0, constantValue := 0 }, { name := "ISO_8859_1", type := (.object "java/nio/charset/Charset"), accessFlags := 25, slot := 1, constantValue := 0 }, { name := "UTF_8", type := (.object "java/nio/charset/Charset"), accessFlags := 25, slot := 2, constantValue := 0 }, { name := "UTF_16BE", type := (.object "java/nio/charset/Charset"), accessFlags := 25, slot := 3, constantValue := 0 }, { name := "UTF_16LE", type := (.object "java/nio/charset/Charset"), accessFlags := 25, slot := 4, constantValue := 0 }, { name := "UTF_16", type := (.object "java/nio/charset/Charset"), accessFlags := 25, slot := 5, constantValue := 0 }]
  methods := #[k10m0]
  instanceTypes := #[]
  staticTypes := #[(.object "java/nio/charset/Charset"), (.object "java/nio/charset/Charset"), (.object "java/nio/charset/Charset"), (.object "java/nio/charset/Charset"), (.object "java/nio/charset/Charset"), (.object "java/nio/charset/Charset")]
  resolved := Array.replicate 68 none
  statics := some 2 }

def pool11 : Array CpInfo := pool [(18, .class_ 20), (1, u "java/nio/charset/Charset"), (0, u "cache1"), (0, u "[Ljava/lang/Object;"), (2, u "cache2"), (0, .class_ 27), (0, u "java/lang/Object"), (0, .class_ 29), (0, u "java/nio/charset/Charset$1"), (4, .class_ 36), (1, u "java/nio/charset/Charset$ThreadTrackHolder"), (21, .class_ 59), (0, u "java/nio/charset/Charset$2"), (11, .class_ 73), (1, u "java/nio/charset/Charset$ExtendedProviderHolder"), (22, u "standardProvider"), (0, u "Ljava/nio/charset/spi/CharsetProvider;"), (29, u "name"), (7, .class_ 136), (0, u "java/nio/charset/Charset$3"), (5, u "defaultCharset"), (0, u "Ljava/nio/charset/Charset;"), (14, u "zeroAliases"), (0, u "[Ljava/lang/String;"), (29, u "Ljava/lang/String;"), (2, u "aliases"), (2, u "aliasSet"), (0, u "Ljava/util/Set;"), (82, .class_ 280), (0, u "java/lang/Comparable"), (84, .class_ 366), (0, u "java/nio/charset/Charset$ExtendedProviderHolder$1")] 3

/-- java/nio/charset/Charset -/
def k11 : Class := { plain "java/nio/charset/Charset" (some 0) with
  accessFlags := 1057
  interfaces := #[3]
  cf := some (fileOf pool11 18 #[.nestMembers #[71, 365, 34, 135, 58, 28]] #[] 1057 26 #[279] #[{ accessFlags := 26, nameIndex := 96, descriptorIndex := 97, attributes := #[] }, { accessFlags := 26, nameIndex := 158, descriptorIndex := 159, attributes := #[] }, { accessFlags := 74, nameIndex := 21, descriptorIndex := 22, attributes := #[] }, { accessFlags := 74, nameIndex := 25, descriptorIndex := 22, attributes := #[] }, { accessFlags := 10, nameIndex := 142, descriptorIndex := 143, attributes := #[] }, { accessFlags := 18, nameIndex := 127, descriptorIndex := 189, attributes := #[] }, { accessFlags := 18, nameIndex := 192, descriptorIndex := 159, attributes := #[] }, { accessFlags := 2, nameIndex := 195, descriptorIndex := 196, attributes := #[] }])
  fields := #[{ name := "standardProvider", type := (.object "java/nio/charset/spi/CharsetProvider"), accessFlags := 26, slot := 0, constantValue := 0 }, { name := "zeroAliases", type := (.array (.object "java/lang/String")), accessFlags := 26, slot := 1, constantValue := 0 }, { name := "cache1", type := (.array (.object "java/lang/Object")), accessFlags := 74, slot := 2, constantValue := 0 }, { name := "cache2", type := (.array (.object "java/lang/Object")), accessFlags := 74, slot := 3, constantValue := 0 }, { name := "defaultCharset", type := (.object "java/nio/charset/Charset"), accessFlags := 10, slot := 4, constantValue := 0 }, { name := "name", type := (.object "java/lang/String"), accessFlags := 18, slot := 0, constantValue := 0 }, { name := "aliases", type := (.array (.object "java/lang/String")), accessFlags := 18, slot := 1, constantValue := 0 }, { name := "aliasSet", type := (.object "java/util/Set"), accessFlags := 2, slot := 2, constantValue := 0 }]
  methods := #[]
  instanceTypes := #[(.object "java/lang/String"), (.array (.object "java/lang/String")), (.object "java/util/Set")]
  staticTypes := #[(.object "java/nio/charset/spi/CharsetProvider"), (.array (.object "java/lang/String")), (.array (.object "java/lang/Object")), (.array (.object "java/lang/Object")), (.object "java/nio/charset/Charset")]
  resolved := Array.replicate 370 none
  statics := none }

def pool12 : Array CpInfo := pool [(1, .class_ 2), (0, u "sun/nio/cs/HistoricallyNamedCharset"), (0, .class_ 4), (0, u "java/lang/Object")] 4

/-- sun/nio/cs/HistoricallyNamedCharset -/
def k12 : Class := { plain "sun/nio/cs/HistoricallyNamedCharset" (some 0) with
  accessFlags := 1537
  interfaces := #[]
  cf := some (fileOf pool12 1 #[] #[] 1537 3 #[] #[])
  fields := #[]
  methods := #[]
  instanceTypes := #[]
  staticTypes := #[]
  resolved := Array.replicate 9 none
  statics := none }

def pool13 : Array CpInfo := pool [(2, .class_ 4), (1, u "java/nio/charset/Charset"), (130, .class_ 136), (0, u "sun/nio/cs/Unicode"), (0, .class_ 138), (0, u "sun/nio/cs/HistoricallyNamedCharset")] 15

/-- sun/nio/cs/Unicode -/
def k13 : Class := { plain "sun/nio/cs/Unicode" (some 11) with
  accessFlags := 1056
  interfaces := #[12]
  cf := some (fileOf pool13 135 #[] #[] 1056 2 #[137] #[])
  fields := #[]
  methods := #[]
  instanceTypes := #[(.object "java/lang/String"), (.array (.object "java/lang/String")), (.object "java/util/Set")]
  staticTypes := #[]
  resolved := Array.replicate 154 none
  statics := none }

def pool14 : Array CpInfo := pool [(10, .class_ 12), (1, u "sun/nio/cs/Unicode"), (0, u "<init>"), (3, .class_ 18), (0, u "sun/nio/cs/UTF_8$Decoder"), (3, .class_ 23), (0, u "sun/nio/cs/UTF_8$Encoder"), (15, .class_ 40), (0, u "sun/nio/cs/UTF_8"), (2, u "()V"), (2, u "INSTANCE"), (0, u "Lsun/nio/cs/UTF_8;"), (8, u "JLA"), (0, u "Ljdk/internal/access/JavaLangAccess;")] 26

def k14m0 : Method := { name := "<init>", desc := "()V", sig := { parameters := [], returnType := none }, accessFlags := 1, code := none }
/-- sun/nio/cs/UTF_8 -/
def k14 : Class := { plain "sun/nio/cs/UTF_8" (some 13) with
  accessFlags := 49
  interfaces := #[]
  cf := some (fileOf pool14 39 #[.nestMembers #[22, 17]] #[{ accessFlags := 1, nameIndex := 13, descriptorIndex := 43, attributes := #[] }] 49 10 #[] #[{ accessFlags := 25, nameIndex := 46, descriptorIndex := 47, attributes := #[] }, { accessFlags := 26, nameIndex := 56, descriptorIndex := 57, attributes := #[] }])
  fields := #[{ name := "INSTANCE", type := (.object "sun/nio/cs/UTF_8"), accessFlags := 25, slot := 0, constantValue := 0 }, { name := "JLA", type := (.object "jdk/internal/access/JavaLangAccess"), accessFlags := 26, slot := 1, constantValue := 0 }]
  methods := #[k14m0]
  instanceTypes := #[(.object "java/lang/String"), (.array (.object "java/lang/String")), (.object "java/util/Set")]
  staticTypes := #[(.object "sun/nio/cs/UTF_8"), (.object "jdk/internal/access/JavaLangAccess")]
  resolved := Array.replicate 84 none
  statics := some 3 }

def pool15 : Array CpInfo := pool [(2, .class_ 4), (1, u "java/lang/Object"), (0, u "<init>"), (0, u "()V"), (0, .methodref 8 9), (0, .class_ 10), (0, .nameAndType 11 12), (0, u "java/lang/StringCoding"), (0, u "countPositives"), (0, u "([BII)I"), (11, u "hasNegatives"), (0, u "([BII)Z")] 23

def k15m0 : Method := { name := "<init>", desc := "()V", sig := { parameters := [], returnType := none }, accessFlags := 2, code := none }
def k15c1 : Code := { maxStack := 3, maxLocals := 3, code := jdk_123_method_2_code, exceptionTable := #[], attributes := #[] }
def k15m1 : Method := { name := "hasNegatives", desc := "([BII)Z", sig := { parameters := [(.array .byte), .int, .int], returnType := some .boolean }, accessFlags := 9, code := some k15c1 }
def k15c2 : Code := { maxStack := 2, maxLocals := 5, code := jdk_123_method_3_code, exceptionTable := #[], attributes := #[] }
def k15m2 : Method := { name := "countPositives", desc := "([BII)I", sig := { parameters := [(.array .byte), .int, .int], returnType := some .int }, accessFlags := 9, code := some k15c2 }
/-- java/lang/StringCoding -/
def k15 : Class := { plain "java/lang/StringCoding" (some 0) with
  accessFlags := 32
  interfaces := #[]
  cf := some (fileOf pool15 8 #[] #[{ accessFlags := 2, nameIndex := 5, descriptorIndex := 6, attributes := #[] }, { accessFlags := 9, nameIndex := 24, descriptorIndex := 25, attributes := #[] }, { accessFlags := 9, nameIndex := 11, descriptorIndex := 12, attributes := #[] }] 32 2 #[] #[])
  fields := #[]
  methods := #[k15m0, k15m1, k15m2]
  instanceTypes := #[]
  staticTypes := #[]
  resolved := Array.replicate 49 none
  statics := none }

def pool16 : Array CpInfo := pool [(1, .class_ 2), (0, u "java/lang/Cloneable"), (0, .class_ 4), (0, u "java/lang/Object")] 2

/-- java/lang/Cloneable -/
def k16 : Class := { plain "java/lang/Cloneable" (some 0) with
  accessFlags := 1537
  interfaces := #[]
  cf := some (fileOf pool16 1 #[] #[] 1537 3 #[] #[])
  fields := #[]
  methods := #[]
  instanceTypes := #[]
  staticTypes := #[]
  resolved := Array.replicate 7 none
  statics := none }

def pool17 : Array CpInfo := pool [(2, .class_ 4), (1, u "java/lang/Object"), (0, u "<init>"), (0, u "()V"), (1, .class_ 10), (1, u "java/lang/System"), (0, u "allowSecurityManager"), (0, u "I"), (16, u "cons"), (0, u "Ljava/io/Console;"), (77, .class_ 110), (1, u "java/lang/System$CallersHolder"), (43, u "initialErrStream"), (0, u "Ljava/io/PrintStream;"), (19, u "security"), (0, u "Ljava/lang/SecurityManager;"), (31, .class_ 209), (0, u "java/lang/System$1"), (7, u "props"), (0, u "Ljava/util/Properties;"), (2, u "lineSeparator"), (0, u "Ljava/lang/String;"), (96, .class_ 321), (1, u "java/lang/System$LoggerFinder"), (5, .class_ 328), (0, u "java/lang/System$Logger"), (67, u "err"), (2, u "out"), (91, u "notSupportedJnuEncoding"), (15, u "in"), (17, u "initialIn"), (0, u "Ljava/io/InputStream;"), (35, u "bootLayer"), (0, u "Ljava/lang/ModuleLayer;"), (99, .class_ 664), (0, u "java/lang/System$2"), (9, u "NEVER"), (2, u "MAYBE"), (49, u "arraycopy"), (0, u "(Ljava/lang/Object;ILjava/lang/Object;II)V"), (72, .class_ 802), (0, u "java/lang/System$Logger$Level")] 31

def k17m0 : Method := { name := "<init>", desc := "()V", sig := { parameters := [], returnType := none }, accessFlags := 2, code := none }
def k17m1 : Method := { name := "arraycopy", desc := "(Ljava/lang/Object;ILjava/lang/Object;II)V", sig := { parameters := [(.object "java/lang/Object"), .int, (.object "java/lang/Object"), .int, .int], returnType := none }, accessFlags := 265, code := none }
/-- java/lang/System -/
def k17 : Class := { plain "java/lang/System" (some 0) with
  accessFlags := 49
  interfaces := #[]
  cf := some (fileOf pool17 8 #[.nestMembers #[319, 327, 801, 108, 663, 208]] #[{ accessFlags := 2, nameIndex := 5, descriptorIndex := 6, attributes := #[] }, { accessFlags := 265, nameIndex := 727, descriptorIndex := 728, attributes := #[] }] 49 2 #[] #[{ accessFlags := 25, nameIndex := 507, descriptorIndex := 526, attributes := #[] }, { accessFlags := 25, nameIndex := 399, descriptorIndex := 155, attributes := #[] }, { accessFlags := 25, nameIndex := 396, descriptorIndex := 155, attributes := #[] }, { accessFlags := 10, nameIndex := 525, descriptorIndex := 526, attributes := #[] }, { accessFlags := 26, nameIndex := 674, descriptorIndex := 12, attributes := #[] }, { accessFlags := 26, nameIndex := 677, descriptorIndex := 12, attributes := #[] }, { accessFlags := 10, nameIndex := 11, descriptorIndex := 12, attributes := #[] }, { accessFlags := 74, nameIndex := 175, descriptorIndex := 176, attributes := #[] }, { accessFlags := 10, nameIndex := 491, descriptorIndex := 222, attributes := #[] }, { accessFlags := 74, nameIndex := 29, descriptorIndex := 30, attributes := #[] }, { accessFlags := 74, nameIndex := 154, descriptorIndex := 155, attributes := #[] }, { accessFlags := 10, nameIndex := 217, descriptorIndex := 218, attributes := #[] }, { accessFlags := 10, nameIndex := 221, descriptorIndex := 222, attributes := #[] }, { accessFlags := 8, nameIndex := 562, descriptorIndex := 563, attributes := #[] }])
  fields := #[{ name := "in", type := (.object "java/io/InputStream"), accessFlags := 25, slot := 0, constantValue := 0 }, { name := "out", type := (.object "java/io/PrintStream"), accessFlags := 25, slot := 1, constantValue := 0 }, { name := "err", type := (.object "java/io/PrintStream"), accessFlags := 25, slot := 2, constantValue := 0 }, { name := "initialIn", type := (.object "java/io/InputStream"), accessFlags := 10, slot := 3, constantValue := 0 }, { name := "NEVER", type := .int, accessFlags := 26, slot := 4, constantValue := 0 }, { name := "MAYBE", type := .int, accessFlags := 26, slot := 5, constantValue := 0 }, { name := "allowSecurityManager", type := .int, accessFlags := 10, slot := 6, constantValue := 0 }, { name := "security", type := (.object "java/lang/SecurityManager"), accessFlags := 74, slot := 7, constantValue := 0 }, { name := "notSupportedJnuEncoding", type := (.object "java/lang/String"), accessFlags := 10, slot := 8, constantValue := 0 }, { name := "cons", type := (.object "java/io/Console"), accessFlags := 74, slot := 9, constantValue := 0 }, { name := "initialErrStream", type := (.object "java/io/PrintStream"), accessFlags := 74, slot := 10, constantValue := 0 }, { name := "props", type := (.object "java/util/Properties"), accessFlags := 10, slot := 11, constantValue := 0 }, { name := "lineSeparator", type := (.object "java/lang/String"), accessFlags := 10, slot := 12, constantValue := 0 }, { name := "bootLayer", type := (.object "java/lang/ModuleLayer"), accessFlags := 8, slot := 13, constantValue := 0 }]
  methods := #[k17m0, k17m1]
  instanceTypes := #[]
  staticTypes := #[(.object "java/io/InputStream"), (.object "java/io/PrintStream"), (.object "java/io/PrintStream"), (.object "java/io/InputStream"), .int, .int, .int, (.object "java/lang/SecurityManager"), (.object "java/lang/String"), (.object "java/io/Console"), (.object "java/io/PrintStream"), (.object "java/util/Properties"), (.object "java/lang/String"), (.object "java/lang/ModuleLayer")]
  resolved := Array.replicate 834 none
  statics := none }

def pool18 : Array CpInfo := pool [(1, .class_ 2), (0, u "java/lang/Character"), (18, u "value"), (0, u "C"), (19, .class_ 44), (1, u "java/lang/Object"), (3, .class_ 50), (1, u "java/lang/Character$CharacterCache"), (24, .integer 55296), (1, .integer 57344), (3, u "(C)Z"), (202, u "$assertionsDisabled"), (0, u "Z"), (21, .class_ 309), (1, u "java/lang/Character$UnicodeBlock"), (73, u "TYPE"), (0, u "Ljava/lang/Class;"), (0, .class_ 386), (0, u "java/io/Serializable"), (0, .class_ 388), (0, u "java/lang/Comparable"), (0, .class_ 390), (0, u "java/lang/constant/Constable"), (0, u "MIN_RADIX"), (0, u "I"), (2, u "MAX_RADIX"), (1, u "MIN_VALUE"), (1, u "MAX_VALUE"), (3, u "UNASSIGNED"), (0, u "B"), (0, u "UPPERCASE_LETTER"), (1, u "LOWERCASE_LETTER"), (0, u "TITLECASE_LETTER"), (1, u "MODIFIER_LETTER"), (1, u "OTHER_LETTER"), (1, u "NON_SPACING_MARK"), (1, u "ENCLOSING_MARK"), (1, u "COMBINING_SPACING_MARK"), (1, u "DECIMAL_DIGIT_NUMBER"), (1, u "LETTER_NUMBER"), (1, u "OTHER_NUMBER"), (1, u "SPACE_SEPARATOR"), (1, u "LINE_SEPARATOR"), (1, u "PARAGRAPH_SEPARATOR"), (1, u "CONTROL"), (1, u "FORMAT"), (1, u "PRIVATE_USE"), (1, u "SURROGATE"), (1, u "DASH_PUNCTUATION"), (1, u "START_PUNCTUATION"), (1, u "END_PUNCTUATION"), (1, u "CONNECTOR_PUNCTUATION"), (1, u "OTHER_PUNCTUATION"), (1, u "MATH_SYMBOL"), (1, u "CURRENCY_SYMBOL"), (1, u "MODIFIER_SYMBOL"), (1, u "OTHER_SYMBOL"), (1, u "INITIAL_QUOTE_PUNCTUATION"), (1, u "FINAL_QUOTE_PUNCTUATION"), (1, u "ERROR"), (1, u "DIRECTIONALITY_UNDEFINED"), (0, u "DIRECTIONALITY_LEFT_TO_RIGHT"), (0, u "DIRECTIONALITY_RIGHT_TO_LEFT"), (0, u "DIRECTIONALITY_RIGHT_TO_LEFT_ARABIC"), (0, u "DIRECTIONALITY_EUROPEAN_NUMBER"), (0, u "DIRECTIONALITY_EUROPEAN_NUMBER_SEPARATOR"), (0, u "DIRECTIONALITY_EUROPEAN_NUMBER_TERMINATOR"), (0, u "DIRECTIONALITY_ARABIC_NUMBER"), (0, u "DIRECTIONALITY_COMMON_NUMBER_SEPARATOR"), (0, u "DIRECTIONALITY_NONSPACING_MARK"), (0, u "DIRECTIONALITY_BOUNDARY_NEUTRAL"), (0, u "DIRECTIONALITY_PARAGRAPH_SEPARATOR"), (0, u "DIRECTIONALITY_SEGMENT_SEPARATOR"), (0, u "DIRECTIONALITY_WHITESPACE"), (0, u "DIRECTIONALITY_OTHER_NEUTRALS"), (0, u "DIRECTIONALITY_LEFT_TO_RIGHT_EMBEDDING"), (0, u "DIRECTIONALITY_LEFT_TO_RIGHT_OVERRIDE"), (0, u "DIRECTIONALITY_RIGHT_TO_LEFT_EMBEDDING"), (0, u "DIRECTIONALITY_RIGHT_TO_LEFT_OVERRIDE"), (1, u "DIRECTIONALITY_POP_DIRECTIONAL_FORMAT"), (0, u "DIRECTIONALITY_LEFT_TO_RIGHT_ISOLATE"), (0, u "DIRECTIONALITY_RIGHT_TO_LEFT_ISOLATE"), (0, u "DIRECTIONALITY_FIRST_STRONG_ISOLATE"), (0, u "DIRECTIONALITY_POP_DIRECTIONAL_ISOLATE"), (0, u "MIN_HIGH_SURROGATE"), (0, u "MAX_HIGH_SURROGATE"), (1, u "MIN_LOW_SURROGATE"), (0, u "MAX_LOW_SURROGATE"), (1, u "MIN_SURROGATE"), (0, u "MAX_SURROGATE"), (0, u "MIN_SUPPLEMENTARY_CODE_POINT"), (0, u "MIN_CODE_POINT"), (0, u "MAX_CODE_POINT"), (1, u "serialVersionUID"), (0, u "J"), (2, u "SIZE"), (0, u "BYTES"), (24, u "isSurrogate"), (63, .class_ 596), (0, u "java/lang/Character$UnicodeScript"), (0, .class_ 598), (0, u "java/lang/Character$Subset")] 5

def k18c0 : Code := { maxStack := 2, maxLocals := 1, code := jdk_89_method_16_code, exceptionTable := #[], attributes := #[] }
def k18m0 : Method := { name := "isSurrogate", desc := "(C)Z", sig := { parameters := [.char], returnType := some .boolean }, accessFlags := 9, code := some k18c0 }
/-- java/lang/Character -/
def k18 : Class := { plain "java/lang/Character" (some 0) with
  accessFlags := 49
  interfaces := #[2, 3, 5]
  cf := some (fileOf pool18 1 #[.nestMembers #[48, 595, 307, 597]] #[{ accessFlags := 9, nameIndex := 531, descriptorIndex := 81, attributes := #[] }] 49 42 #[385, 387, 389] #[{ accessFlags := 25, nameIndex := 391, descriptorIndex := 392, attributes := #[] }, { accessFlags := 25, nameIndex := 395, descriptorIndex := 392, attributes := #[] }, { accessFlags := 25, nameIndex := 397, descriptorIndex := 22, attributes := #[] }, { accessFlags := 25, nameIndex := 399, descriptorIndex := 22, attributes := #[] }, { accessFlags := 25, nameIndex := 383, descriptorIndex := 384, attributes := #[] }, { accessFlags := 25, nameIndex := 403, descriptorIndex := 404, attributes := #[] }, { accessFlags := 25, nameIndex := 405, descriptorIndex := 404, attributes := #[] }, { accessFlags := 25, nameIndex := 407, descriptorIndex := 404, attributes := #[] }, { accessFlags := 25, nameIndex := 408, descriptorIndex := 404, attributes := #[] }, { accessFlags := 25, nameIndex := 410, descriptorIndex := 404, attributes := #[] }, { accessFlags := 25, nameIndex := 412, descriptorIndex := 404, attributes := #[] }, { accessFlags := 25, nameIndex := 414, descriptorIndex := 404, attributes := #[] }, { accessFlags := 25, nameIndex := 416, descriptorIndex := 404, attributes := #[] }, { accessFlags := 25, nameIndex := 418, descriptorIndex := 404, attributes := #[] }, { accessFlags := 25, nameIndex := 420, descriptorIndex := 404, attributes := #[] }, { accessFlags := 25, nameIndex := 422, descriptorIndex := 404, attributes := #[] }, { accessFlags := 25, nameIndex := 424, descriptorIndex := 404, attributes := #[] }, { accessFlags := 25, nameIndex := 426, descriptorIndex := 404, attributes := #[] }, { accessFlags := 25, nameIndex := 428, descriptorIndex := 404, attributes := #[] }, { accessFlags := 25, nameIndex := 430, descriptorIndex := 404, attributes := #[] }, { accessFlags := 25, nameIndex := 432, descriptorIndex := 404, attributes := #[] }, { accessFlags := 25, nameIndex := 434, descriptorIndex := 404, attributes := #[] }, { accessFlags := 25, nameIndex := 436, descriptorIndex := 404, attributes := #[] }, { accessFlags := 25, nameIndex := 438, descriptorIndex := 404, attributes := #[] }, { accessFlags := 25, nameIndex := 440, descriptorIndex := 404, attributes := #[] }, { accessFlags := 25, nameIndex := 442, descriptorIndex := 404, attributes := #[] }, { accessFlags := 25, nameIndex := 444, descriptorIndex := 404, attributes := #[] }, { accessFlags := 25, nameIndex := 446, descriptorIndex := 404, attributes := #[] }, { accessFlags := 25, nameIndex := 448, descriptorIndex := 404, attributes := #[] }, { accessFlags := 25, nameIndex := 450, descriptorIndex := 404, attributes := #[] }, { accessFlags := 25, nameIndex := 452, descriptorIndex := 404, attributes := #[] }, { accessFlags := 25, nameIndex := 454, descriptorIndex := 404, attributes := #[] }, { accessFlags := 25, nameIndex := 456, descriptorIndex := 404, attributes := #[] }, { accessFlags := 25, nameIndex := 458, descriptorIndex := 404, attributes := #[] }, { accessFlags := 25, nameIndex := 460, descriptorIndex := 404, attributes := #[] }, { accessFlags := 24, nameIndex := 462, descriptorIndex := 392, attributes := #[] }, { accessFlags := 25, nameIndex := 464, descriptorIndex := 404, attributes := #[] }, { accessFlags := 25, nameIndex := 465, descriptorIndex := 404, attributes := #[] }, { accessFlags := 25, nameIndex := 466, descriptorIndex := 404, attributes := #[] }, { accessFlags := 25, nameIndex := 467, descriptorIndex := 404, attributes := #[] }, { accessFlags := 25, nameIndex := 468, descriptorIndex := 404, attributes := #[] }, { accessFlags := 25, nameIndex := 469, descriptorIndex := 404, attributes := #[] }, { accessFlags := 25, nameIndex := 470, descriptorIndex := 404, attributes := #[] }, { accessFlags := 25, nameIndex := 471, descriptorIndex := 404, attributes := #[] }, { accessFlags := 25, nameIndex := 472, descriptorIndex := 404, attributes := #[] }, { accessFlags := 25, nameIndex := 473, descriptorIndex := 404, attributes := #[] }, { accessFlags := 25, nameIndex := 474, descriptorIndex := 404, attributes := #[] }, { accessFlags := 25, nameIndex := 475, descriptorIndex := 404, attributes := #[] }, { accessFlags := 25, nameIndex := 476, descriptorIndex := 404, attributes := #[] }, { accessFlags := 25, nameIndex := 477, descriptorIndex := 404, attributes := #[] }, { accessFlags := 25, nameIndex := 478, descriptorIndex := 404, attributes := #[] }, { accessFlags := 25, nameIndex := 479, descriptorIndex := 404, attributes := #[] }, { accessFlags := 25, nameIndex := 480, descriptorIndex := 404, attributes := #[] }, { accessFlags := 25, nameIndex := 481, descriptorIndex := 404, attributes := #[] }, { accessFlags := 25, nameIndex := 482, descriptorIndex := 404, attributes := #[] }, { accessFlags := 25, nameIndex := 484, descriptorIndex := 404, attributes := #[] }, { accessFlags := 25, nameIndex := 485, descriptorIndex := 404, attributes := #[] }, { accessFlags := 25, nameIndex := 486, descriptorIndex := 404, attributes := #[] }, { accessFlags := 25, nameIndex := 487, descriptorIndex := 404, attributes := #[] }, { accessFlags := 25, nameIndex := 488, descriptorIndex := 404, attributes := #[] }, { accessFlags := 25, nameIndex := 489, descriptorIndex := 22, attributes := #[] }, { accessFlags := 25, nameIndex := 490, descriptorIndex := 22, attributes := #[] }, { accessFlags := 25, nameIndex := 492, descriptorIndex := 22, attributes := #[] }, { accessFlags := 25, nameIndex := 493, descriptorIndex := 22, attributes := #[] }, { accessFlags := 25, nameIndex := 495, descriptorIndex := 22, attributes := #[] }, { accessFlags := 25, nameIndex := 496, descriptorIndex := 22, attributes := #[] }, { accessFlags := 25, nameIndex := 497, descriptorIndex := 392, attributes := #[] }, { accessFlags := 25, nameIndex := 498, descriptorIndex := 392, attributes := #[] }, { accessFlags := 25, nameIndex := 499, descriptorIndex := 392, attributes := #[] }, { accessFlags := 18, nameIndex := 21, descriptorIndex := 22, attributes := #[] }, { accessFlags := 26, nameIndex := 501, descriptorIndex := 502, attributes := #[] }, { accessFlags := 25, nameIndex := 505, descriptorIndex := 392, attributes := #[] }, { accessFlags := 25, nameIndex := 506, descriptorIndex := 392, attributes := #[] }, { accessFlags := 4120, nameIndex := 284, descriptorIndex := 285, attributes := #[] }])
  fields := #[{ name := "MIN_RADIX", type := .int, accessFlags := 25, slot := 0, constantValue := 0 }, { name := "MAX_RADIX", type := .int, accessFlags := 25, slot := 1, constantValue := 0 }, { name := "MIN_VALUE", type := .char, accessFlags := 25, slot := 2, constantValue := 0 }, { name := "MAX_VALUE", type := .char, accessFlags := 25, slot := 3, constantValue := 0 }, { name := "TYPE", type := (.object "java/lang/Class"), accessFlags := 25, slot := 4, constantValue := 0 }, { name := "UNASSIGNED", type := .byte, accessFlags := 25, slot := 5, constantValue := 0 }, { name := "UPPERCASE_LETTER", type := .byte, accessFlags := 25, slot := 6, constantValue := 0 }, { name := "LOWERCASE_LETTER", type := .byte, accessFlags := 25, slot := 7, constantValue := 0 }, { name := "TITLECASE_LETTER", type := .byte, accessFlags := 25, slot := 8, constantValue := 0 }, { name := "MODIFIER_LETTER", type := .byte, accessFlags := 25, slot := 9, constantValue := 0 }, { name := "OTHER_LETTER", type := .byte, accessFlags := 25, slot := 10, constantValue := 0 }, { name := "NON_SPACING_MARK", type := .byte, accessFlags := 25, slot := 11, constantValue := 0 }, { name := "ENCLOSING_MARK", type := .byte, accessFlags := 25, slot := 12, constantValue := 0 }, { name := "COMBINING_SPACING_MARK", type := .byte, accessFlags := 25, slot := 13, constantValue := 0 }, { name := "DECIMAL_DIGIT_NUMBER", type := .byte, accessFlags := 25, slot := 14, constantValue := 0 }, { name := "LETTER_NUMBER", type := .byte, accessFlags := 25, slot := 15, constantValue := 0 }, { name := "OTHER_NUMBER", type := .byte, accessFlags := 25, slot := 16, constantValue := 0 }, { name := "SPACE_SEPARATOR", type := .byte, accessFlags := 25, slot := 17, constantValue := 0 }, { name := "LINE_SEPARATOR", type := .byte, accessFlags := 25, slot := 18, constantValue := 0 }, { name := "PARAGRAPH_SEPARATOR", type := .byte, accessFlags := 25, slot := 19, constantValue := 0 }, { name := "CONTROL", type := .byte, accessFlags := 25, slot := 20, constantValue := 0 }, { name := "FORMAT", type := .byte, accessFlags := 25, slot := 21, constantValue := 0 }, { name := "PRIVATE_USE", type := .byte, accessFlags := 25, slot := 22, constantValue := 0 }, { name := "SURROGATE", type := .byte, accessFlags := 25, slot := 23, constantValue := 0 }, { name := "DASH_PUNCTUATION", type := .byte, accessFlags := 25, slot := 24, constantValue := 0 }, { name := "START_PUNCTUATION", type := .byte, accessFlags := 25, slot := 25, constantValue := 0 }, { name := "END_PUNCTUATION", type := .byte, accessFlags := 25, slot := 26, constantValue := 0 }, { name := "CONNECTOR_PUNCTUATION", type := .byte, accessFlags := 25, slot := 27, constantValue := 0 }, { name := "OTHER_PUNCTUATION", type := .byte, accessFlags := 25, slot := 28, constantValue := 0 }, { name := "MATH_SYMBOL", type := .byte, accessFlags := 25, slot := 29, constantValue := 0 }, { name := "CURRENCY_SYMBOL", type := .byte, accessFlags := 25, slot := 30, constantValue := 0 }, { name := "MODIFIER_SYMBOL", type := .byte, accessFlags := 25, slot := 31, constantValue := 0 }, { name := "OTHER_SYMBOL", type := .byte, accessFlags := 25, slot := 32, constantValue := 0 }, { name := "INITIAL_QUOTE_PUNCTUATION", type := .byte, accessFlags := 25, slot := 33, constantValue := 0 }, { name := "FINAL_QUOTE_PUNCTUATION", type := .byte, accessFlags := 25, slot := 34, constantValue := 0 }, { name := "ERROR", type := .int, accessFlags := 24, slot := 35, constantValue := 0 }, { name := "DIRECTIONALITY_UNDEFINED", type := .byte, accessFlags := 25, slot := 36, constantValue := 0 }, { name := "DIRECTIONALITY_LEFT_TO_RIGHT", type := .byte, accessFlags := 25, slot := 37, constantValue := 0 }, { name := "DIRECTIONALITY_RIGHT_TO_LEFT", type := .byte, accessFlags := 25, slot := 38, constantValue := 0 }, { name := "DIRECTIONALITY_RIGHT_TO_LEFT_ARABIC", type := .byte, accessFlags := 25, slot := 39, constantValue := 0 }, { name := "DIRECTIONALITY_EUROPEAN_NUMBER", type := .byte, accessFlags := 25, slot := 40, constantValue := 0 }, { name := "DIRECTIONALITY_EUROPEAN_NUMBER_SEPARATOR", type := .byte, accessFlags := 25, slot := 41, constantValue := 0 }, { name := "DIRECTIONALITY_EUROPEAN_NUMBER_TERMINATOR", type := .byte, accessFlags := 25, slot := 42, constantValue := 0 }, { name := "DIRECTIONALITY_ARABIC_NUMBER", type := .byte, accessFlags := 25, slot := 43, constantValue := 0 }, { name := "DIRECTIONALITY_COMMON_NUMBER_SEPARATOR", type := .byte, accessFlags := 25, slot := 44, constantValue := 0 }, { name := "DIRECTIONALITY_NONSPACING_MARK", type := .byte, accessFlags := 25, slot := 45, constantValue := 0 }, { name := "DIRECTIONALITY_BOUNDARY_NEUTRAL", type := .byte, accessFlags := 25, slot := 46, constantValue := 0 }, { name := "DIRECTIONALITY_PARAGRAPH_SEPARATOR", type := .byte, accessFlags := 25, slot := 47, constantValue := 0 }, { name := "DIRECTIONALITY_SEGMENT_SEPARATOR", type := .byte, accessFlags := 25, slot := 48, constantValue := 0 }, { name := "DIRECTIONALITY_WHITESPACE", type := .byte, accessFlags := 25, slot := 49, constantValue := 0 }, { name := "DIRECTIONALITY_OTHER_NEUTRALS", type := .byte, accessFlags := 25, slot := 50, constantValue := 0 }, { name := "DIRECTIONALITY_LEFT_TO_RIGHT_EMBEDDING", type := .byte, accessFlags := 25, slot := 51, constantValue := 0 }, { name := "DIRECTIONALITY_LEFT_TO_RIGHT_OVERRIDE", type := .byte, accessFlags := 25, slot := 52, constantValue := 0 }, { name := "DIRECTIONALITY_RIGHT_TO_LEFT_EMBEDDING", type := .byte, accessFlags := 25, slot := 53, constantValue := 0 }, { name := "DIRECTIONALITY_RIGHT_TO_LEFT_OVERRIDE", type := .byte, accessFlags := 25, slot := 54, constantValue := 0 }, { name := "DIRECTIONALITY_POP_DIRECTIONAL_FORMAT", type := .byte, accessFlags := 25, slot := 55, constantValue := 0 }, { name := "DIRECTIONALITY_LEFT_TO_RIGHT_ISOLATE", type := .byte, accessFlags := 25, slot := 56, constantValue := 0 }, { name := "DIRECTIONALITY_RIGHT_TO_LEFT_ISOLATE", type := .byte, accessFlags := 25, slot := 57, constantValue := 0 }, { name := "DIRECTIONALITY_FIRST_STRONG_ISOLATE", type := .byte, accessFlags := 25, slot := 58, constantValue := 0 }, { name := "DIRECTIONALITY_POP_DIRECTIONAL_ISOLATE", type := .byte, accessFlags := 25, slot := 59, constantValue := 0 }, { name := "MIN_HIGH_SURROGATE", type := .char, accessFlags := 25, slot := 60, constantValue := 0 }, { name := "MAX_HIGH_SURROGATE", type := .char, accessFlags := 25, slot := 61, constantValue := 0 }, { name := "MIN_LOW_SURROGATE", type := .char, accessFlags := 25, slot := 62, constantValue := 0 }, { name := "MAX_LOW_SURROGATE", type := .char, accessFlags := 25, slot := 63, constantValue := 0 }, { name := "MIN_SURROGATE", type := .char, accessFlags := 25, slot := 64, constantValue := 0 }, { name := "MAX_SURROGATE", type := .char, accessFlags := 25, slot := 65, constantValue := 0 }, { name := "MIN_SUPPLEMENTARY_CODE_POINT", type := .int, accessFlags := 25, slot := 66, constantValue := 0 }, { name := "MIN_CODE_POINT", type := .int, accessFlags := 25, slot := 67, constantValue := 0 }, { name := "MAX_CODE_POINT", type := .int, accessFlags := 25, slot := 68, constantValue := 0 }, { name := "value", type := .char, accessFlags := 18, slot := 0, constantValue := 0 }, { name := "serialVersionUID", type := .long, accessFlags := 26, slot := 69, constantValue := 0 }, { name := "SIZE", type := .int, accessFlags := 25, slot := 70, constantValue := 0 }, { name := "BYTES", type := .int, accessFlags := 25, slot := 71, constantValue := 0 }, { name := "$assertionsDisabled", type := .boolean, accessFlags := 4120, slot := 72, constantValue := 0 }]
  methods := #[k18m0]
  instanceTypes := #[.char]
  staticTypes := #[.int, .int, .char, .char, (.object "java/lang/Class"), .byte, .byte, .byte, .byte, .byte, .byte, .byte, .byte, .byte, .byte, .byte, .byte, .byte, .byte, .byte, .byte, .byte, .byte, .byte, .byte, .byte, .byte, .byte, .byte, .byte, .byte, .byte, .byte, .byte, .byte, .int, .byte, .byte, .byte, .byte, .byte, .byte, .byte, .byte, .byte, .byte, .byte, .byte, .byte, .byte, .byte, .byte, .byte, .byte, .byte, .byte, .byte, .byte, .byte, .byte, .char, .char, .char, .char, .char, .char, .int, .int, .int, .long, .int, .int, .boolean]
  resolved := Array.replicate 604 none
  statics := none }

def pool19 : Array CpInfo := pool [(2, .class_ 4), (1, u "java/lang/Object"), (0, u "<init>"), (0, u "()V"), (7, .class_ 16), (1, u "java/util/Arrays"), (57, .class_ 76), (1, u "java/util/Arrays$NaturalOrder"), (36, .class_ 115), (1, u "java/util/Arrays$LegacyMergeSort"), (1, u "Z"), (32, .methodref 151 152), (0, .class_ 153), (0, .nameAndType 154 155), (0, u "java/lang/System"), (0, u "arraycopy"), (0, u "(Ljava/lang/Object;ILjava/lang/Object;II)V"), (146, u "copyOf"), (1, .methodref 305 306), (0, .class_ 307), (0, .nameAndType 308 309), (0, u "java/lang/Math"), (0, u "min"), (0, u "(II)I"), (65, .class_ 376), (0, u "java/util/Arrays$ArrayList"), (68, u "$assertionsDisabled"), (269, u "MIN_ARRAY_SORT_GRAN"), (0, u "I"), (2, u "INSERTIONSORT_THRESHOLD"), (149, u "([BI)[B"), (105, .class_ 976), (0, u "java/util/Arrays$ArrayItr")] 52

def k19m0 : Method := { name := "<init>", desc := "()V", sig := { parameters := [], returnType := none }, accessFlags := 2, code := none }
def k19c1 : Code := { maxStack := 6, maxLocals := 3, code := jdk_65_method_121_code, exceptionTable := #[], attributes := #[] }
def k19m1 : Method := { name := "copyOf", desc := "([BI)[B", sig := { parameters := [(.array .byte), .int], returnType := some (.array .byte) }, accessFlags := 9, code := some k19c1 }
/-- java/util/Arrays -/
def k19 : Class := { plain "java/util/Arrays" (some 0) with
  accessFlags := 49
  interfaces := #[]
  cf := some (fileOf pool19 14 #[.nestMembers #[975, 375, 113, 74]] #[{ accessFlags := 2, nameIndex := 5, descriptorIndex := 6, attributes := #[] }, { accessFlags := 9, nameIndex := 302, descriptorIndex := 869, attributes := #[] }] 49 2 #[] #[{ accessFlags := 26, nameIndex := 715, descriptorIndex := 716, attributes := #[] }, { accessFlags := 26, nameIndex := 719, descriptorIndex := 716, attributes := #[] }, { accessFlags := 4120, nameIndex := 445, descriptorIndex := 117, attributes := #[] }])
  fields := #[{ name := "MIN_ARRAY_SORT_GRAN", type := .int, accessFlags := 26, slot := 0, constantValue := 0 }, { name := "INSERTIONSORT_THRESHOLD", type := .int, accessFlags := 26, slot := 1, constantValue := 0 }, { name := "$assertionsDisabled", type := .boolean, accessFlags := 4120, slot := 2, constantValue := 0 }]
  methods := #[k19m0, k19m1]
  instanceTypes := #[]
  staticTypes := #[.int, .int, .boolean]
  resolved := Array.replicate 1029 none
  statics := none }

def pool20 : Array CpInfo := pool [(1, .class_ 2), (0, u "java/lang/Math"), (1, .class_ 6), (1, u "java/lang/Object"), (0, u "<init>"), (0, u "()V"), (89, .class_ 100), (1, u "java/lang/Math$RandomNumberGeneratorHolder"), (71, u "negativeZeroFloatBits"), (0, u "J"), (2, u "negativeZeroDoubleBits"), (24, u "min"), (43, u "$assertionsDisabled"), (0, u "Z"), (88, u "(II)I"), (2, u "twoToTheDoubleScaleDown"), (0, u "D"), (4, u "twoToTheDoubleScaleUp"), (9, u "E"), (3, u "PI"), (2, u "TAU"), (2, u "DEGREES_TO_RADIANS"), (0, u "RADIANS_TO_DEGREES")] 94

def k20m0 : Method := { name := "<init>", desc := "()V", sig := { parameters := [], returnType := none }, accessFlags := 2, code := none }
def k20c1 : Code := { maxStack := 2, maxLocals := 2, code := jdk_29_method_69_code, exceptionTable := #[], attributes := #[] }
def k20m1 : Method := { name := "min", desc := "(II)I", sig := { parameters := [.int, .int], returnType := some .int }, accessFlags := 9, code := some k20c1 }
/-- java/lang/Math -/
def k20 : Class := { plain "java/lang/Math" (some 0) with
  accessFlags := 49
  interfaces := #[]
  cf := some (fileOf pool20 1 #[.nestMembers #[98]] #[{ accessFlags := 2, nameIndex := 7, descriptorIndex := 8, attributes := #[] }, { accessFlags := 9, nameIndex := 201, descriptorIndex := 335, attributes := #[] }] 49 4 #[] #[{ accessFlags := 25, nameIndex := 354, descriptorIndex := 339, attributes := #[] }, { accessFlags := 25, nameIndex := 358, descriptorIndex := 339, attributes := #[] }, { accessFlags := 25, nameIndex := 361, descriptorIndex := 339, attributes := #[] }, { accessFlags := 26, nameIndex := 364, descriptorIndex := 339, attributes := #[] }, { accessFlags := 26, nameIndex := 365, descriptorIndex := 339, attributes := #[] }, { accessFlags := 26, nameIndex := 172, descriptorIndex := 173, attributes := #[] }, { accessFlags := 26, nameIndex := 176, descriptorIndex := 173, attributes := #[] }, { accessFlags := 8, nameIndex := 344, descriptorIndex := 339, attributes := #[] }, { accessFlags := 8, nameIndex := 338, descriptorIndex := 339, attributes := #[] }, { accessFlags := 4120, nameIndex := 245, descriptorIndex := 246, attributes := #[] }])
  fields := #[{ name := "E", type := .double, accessFlags := 25, slot := 0, constantValue := 0 }, { name := "PI", type := .double, accessFlags := 25, slot := 1, constantValue := 0 }, { name := "TAU", type := .double, accessFlags := 25, slot := 2, constantValue := 0 }, { name := "DEGREES_TO_RADIANS", type := .double, accessFlags := 26, slot := 3, constantValue := 0 }, { name := "RADIANS_TO_DEGREES", type := .double, accessFlags := 26, slot := 4, constantValue := 0 }, { name := "negativeZeroFloatBits", type := .long, accessFlags := 26, slot := 5, constantValue := 0 }, { name := "negativeZeroDoubleBits", type := .long, accessFlags := 26, slot := 6, constantValue := 0 }, { name := "twoToTheDoubleScaleUp", type := .double, accessFlags := 8, slot := 7, constantValue := 0 }, { name := "twoToTheDoubleScaleDown", type := .double, accessFlags := 8, slot := 8, constantValue := 0 }, { name := "$assertionsDisabled", type := .boolean, accessFlags := 4120, slot := 9, constantValue := 0 }]
  methods := #[k20m0, k20m1]
  instanceTypes := #[]
  staticTypes := #[.double, .double, .double, .double, .double, .long, .long, .double, .double, .boolean]
  resolved := Array.replicate 460 none
  statics := none }

def pool21 : Array CpInfo := pool [(4, .class_ 6), (1, u "java/lang/Object"), (0, u "<init>"), (0, u "()V"), (5, .class_ 16), (1, u "java/lang/StringLatin1"), (104, u "$assertionsDisabled"), (0, u "Z"), (98, .class_ 223), (1, u "java/lang/StringLatin1$LinesSpliterator"), (166, .class_ 391), (0, u "java/lang/StringLatin1$CharsSpliterator")] 3

def k21m0 : Method := { name := "<init>", desc := "()V", sig := { parameters := [], returnType := none }, accessFlags := 0, code := none }
/-- java/lang/StringLatin1 -/
def k21 : Class := { plain "java/lang/StringLatin1" (some 0) with
  accessFlags := 48
  interfaces := #[]
  cf := some (fileOf pool21 14 #[.nestMembers #[390, 221]] #[{ accessFlags := 0, nameIndex := 7, descriptorIndex := 8, attributes := #[] }] 48 4 #[] #[{ accessFlags := 4120, nameIndex := 121, descriptorIndex := 122, attributes := #[] }])
  fields := #[{ name := "$assertionsDisabled", type := .boolean, accessFlags := 4120, slot := 0, constantValue := 0 }]
  methods := #[k21m0]
  instanceTypes := #[]
  staticTypes := #[.boolean]
  resolved := Array.replicate 395 none
  statics := none }

def pool22 : Array CpInfo := pool [(2, .class_ 4), (1, u "java/lang/Object"), (0, u "<init>"), (0, u "()V"), (17, .class_ 26), (1, u "jdk/internal/util/Preconditions"), (28, .class_ 56), (0, u "jdk/internal/util/Preconditions$4"), (57, .class_ 115), (0, u "jdk/internal/util/Preconditions$1"), (7, u "SIOOBE_FORMATTER"), (0, u "Ljava/util/function/BiFunction;"), (0, .class_ 126), (0, u "jdk/internal/util/Preconditions$2"), (3, u "AIOOBE_FORMATTER"), (0, .class_ 132), (0, u "jdk/internal/util/Preconditions$3"), (3, u "IOOBE_FORMATTER")] 57

def k22m0 : Method := { name := "<init>", desc := "()V", sig := { parameters := [], returnType := none }, accessFlags := 1, code := none }
/-- jdk/internal/util/Preconditions -/
def k22 : Class := { plain "jdk/internal/util/Preconditions" (some 0) with
  accessFlags := 33
  interfaces := #[]
  cf := some (fileOf pool22 24 #[.nestMembers #[55, 131, 125, 114]] #[{ accessFlags := 1, nameIndex := 5, descriptorIndex := 6, attributes := #[] }] 33 2 #[] #[{ accessFlags := 25, nameIndex := 123, descriptorIndex := 124, attributes := #[] }, { accessFlags := 25, nameIndex := 130, descriptorIndex := 124, attributes := #[] }, { accessFlags := 25, nameIndex := 136, descriptorIndex := 124, attributes := #[] }])
  fields := #[{ name := "SIOOBE_FORMATTER", type := (.object "java/util/function/BiFunction"), accessFlags := 25, slot := 0, constantValue := 0 }, { name := "AIOOBE_FORMATTER", type := (.object "java/util/function/BiFunction"), accessFlags := 25, slot := 1, constantValue := 0 }, { name := "IOOBE_FORMATTER", type := (.object "java/util/function/BiFunction"), accessFlags := 25, slot := 2, constantValue := 0 }]
  methods := #[k22m0]
  instanceTypes := #[]
  staticTypes := #[(.object "java/util/function/BiFunction"), (.object "java/util/function/BiFunction"), (.object "java/util/function/BiFunction")]
  resolved := Array.replicate 194 none
  statics := some 4 }

def pool23 : Array CpInfo := pool [(9, u "<init>"), (6, .class_ 18), (1, u "java/lang/Object"), (0, u "()V"), (1, .class_ 23), (1, u "jdk/internal/util/ArraysSupport"), (0, u "LOG2_ARRAY_LONG_INDEX_SCALE"), (0, u "I"), (2, u "U"), (0, u "Ljdk/internal/misc/Unsafe;"), (8, u "BIG_ENDIAN"), (0, u "Z"), (8, u "LOG2_BYTE_BIT_SIZE"), (4, u "LOG2_ARRAY_INT_INDEX_SCALE"), (54, u "JLA"), (0, u "Ljdk/internal/access/JavaLangAccess;"), (11, u "LOG2_ARRAY_BOOLEAN_INDEX_SCALE"), (9, u "LOG2_ARRAY_BYTE_INDEX_SCALE"), (5, u "LOG2_ARRAY_CHAR_INDEX_SCALE"), (5, u "LOG2_ARRAY_SHORT_INDEX_SCALE"), (18, u "LOG2_ARRAY_FLOAT_INDEX_SCALE"), (24, u "LOG2_ARRAY_DOUBLE_INDEX_SCALE"), (89, u "T_BOOLEAN"), (2, u "T_CHAR"), (1, u "T_FLOAT"), (1, u "T_DOUBLE"), (1, u "T_BYTE"), (1, u "T_SHORT"), (1, u "T_INT"), (1, u "T_LONG"), (1, u "SOFT_MAX_ARRAY_LENGTH")] 83

def k23m0 : Method := { name := "<init>", desc := "()V", sig := { parameters := [], returnType := none }, accessFlags := 2, code := none }
/-- jdk/internal/util/ArraysSupport -/
def k23 : Class := { plain "jdk/internal/util/ArraysSupport" (some 0) with
  accessFlags := 33
  interfaces := #[]
  cf := some (fileOf pool23 21 #[] #[{ accessFlags := 2, nameIndex := 9, descriptorIndex := 19, attributes := #[] }] 33 16 #[] #[{ accessFlags := 24, nameIndex := 28, descriptorIndex := 29, attributes := #[] }, { accessFlags := 26, nameIndex := 38, descriptorIndex := 39, attributes := #[] }, { accessFlags := 25, nameIndex := 121, descriptorIndex := 25, attributes := #[] }, { accessFlags := 25, nameIndex := 131, descriptorIndex := 25, attributes := #[] }, { accessFlags := 25, nameIndex := 137, descriptorIndex := 25, attributes := #[] }, { accessFlags := 25, nameIndex := 143, descriptorIndex := 25, attributes := #[] }, { accessFlags := 25, nameIndex := 53, descriptorIndex := 25, attributes := #[] }, { accessFlags := 25, nameIndex := 24, descriptorIndex := 25, attributes := #[] }, { accessFlags := 25, nameIndex := 162, descriptorIndex := 25, attributes := #[] }, { accessFlags := 25, nameIndex := 187, descriptorIndex := 25, attributes := #[] }, { accessFlags := 26, nameIndex := 48, descriptorIndex := 25, attributes := #[] }, { accessFlags := 25, nameIndex := 277, descriptorIndex := 25, attributes := #[] }, { accessFlags := 25, nameIndex := 280, descriptorIndex := 25, attributes := #[] }, { accessFlags := 25, nameIndex := 282, descriptorIndex := 25, attributes := #[] }, { accessFlags := 25, nameIndex := 284, descriptorIndex := 25, attributes := #[] }, { accessFlags := 25, nameIndex := 286, descriptorIndex := 25, attributes := #[] }, { accessFlags := 25, nameIndex := 288, descriptorIndex := 25, attributes := #[] }, { accessFlags := 25, nameIndex := 290, descriptorIndex := 25, attributes := #[] }, { accessFlags := 25, nameIndex := 292, descriptorIndex := 25, attributes := #[] }, { accessFlags := 26, nameIndex := 108, descriptorIndex := 109, attributes := #[] }, { accessFlags := 25, nameIndex := 294, descriptorIndex := 25, attributes := #[] }])
  fields := #[{ name := "U", type := (.object "jdk/internal/misc/Unsafe"), accessFlags := 24, slot := 0, constantValue := 0 }, { name := "BIG_ENDIAN", type := .boolean, accessFlags := 26, slot := 1, constantValue := 0 }, { name := "LOG2_ARRAY_BOOLEAN_INDEX_SCALE", type := .int, accessFlags := 25, slot := 2, constantValue := 0 }, { name := "LOG2_ARRAY_BYTE_INDEX_SCALE", type := .int, accessFlags := 25, slot := 3, constantValue := 0 }, { name := "LOG2_ARRAY_CHAR_INDEX_SCALE", type := .int, accessFlags := 25, slot := 4, constantValue := 0 }, { name := "LOG2_ARRAY_SHORT_INDEX_SCALE", type := .int, accessFlags := 25, slot := 5, constantValue := 0 }, { name := "LOG2_ARRAY_INT_INDEX_SCALE", type := .int, accessFlags := 25, slot := 6, constantValue := 0 }, { name := "LOG2_ARRAY_LONG_INDEX_SCALE", type := .int, accessFlags := 25, slot := 7, constantValue := 0 }, { name := "LOG2_ARRAY_FLOAT_INDEX_SCALE", type := .int, accessFlags := 25, slot := 8, constantValue := 0 }, { name := "LOG2_ARRAY_DOUBLE_INDEX_SCALE", type := .int, accessFlags := 25, slot := 9, constantValue := 0 }, { name := "LOG2_BYTE_BIT_SIZE", type := .int, accessFlags := 26, slot := 10, constantValue := 0 }, { name := "T_BOOLEAN", type := .int, accessFlags := 25, slot := 11, constantValue := 0 }, { name := "T_CHAR", type := .int, accessFlags := 25, slot := 12, constantValue := 0 }, { name := "T_FLOAT", type := .int, accessFlags := 25, slot := 13, constantValue := 0 }, { name := "T_DOUBLE", type := .int, accessFlags := 25, slot := 14, constantValue := 0 }, { name := "T_BYTE", type := .int, accessFlags := 25, slot := 15, constantValue := 0 }, { name := "T_SHORT", type := .int, accessFlags := 25, slot := 16, constantValue := 0 }, { name := "T_INT", type := .int, accessFlags := 25, slot := 17, constantValue := 0 }, { name := "T_LONG", type := .int, accessFlags := 25, slot := 18, constantValue := 0 }, { name := "JLA", type := (.object "jdk/internal/access/JavaLangAccess"), accessFlags := 26, slot := 19, constantValue := 0 }, { name := "SOFT_MAX_ARRAY_LENGTH", type := .int, accessFlags := 25, slot := 20, constantValue := 0 }]
  methods := #[k23m0]
  instanceTypes := #[]
  staticTypes := #[(.object "jdk/internal/misc/Unsafe"), .boolean, .int, .int, .int, .int, .int, .int, .int, .int, .int, .int, .int, .int, .int, .int, .int, .int, .int, (.object "jdk/internal/access/JavaLangAccess"), .int]
  resolved := Array.replicate 378 none
  statics := none }

/-- the primitive byte -/
def k24 : Class := { plain "byte" none with kind := .primitive 'B', accessFlags := 0x411 }
/-- [B -/
def k25 : Class := { plain "[B" (some 0) with kind := .array 24 .byte, interfaces := #[16, 2], accessFlags := 1041 }

/-- the primitive char -/
def k26 : Class := { plain "char" none with kind := .primitive 'C', accessFlags := 0x411 }
/-- [C -/
def k27 : Class := { plain "[C" (some 0) with kind := .array 26 .char, interfaces := #[16, 2], accessFlags := 1041 }

/-- the primitive int -/
def k28 : Class := { plain "int" none with kind := .primitive 'I', accessFlags := 0x411 }
/-- [I -/
def k29 : Class := { plain "[I" (some 0) with kind := .array 28 .int, interfaces := #[16, 2], accessFlags := 1041 }

def heap : Heap := #[{ cls := 7, slots := #[.long 0, .int 1, .null, .int 0, .null, .int 0, .int 0], vm := .statics 7 },
  { cls := 8, slots := #[.int 0, .int 8, .int 0, .int 1], vm := .statics 8 },
  { cls := 10, slots := #[.null, .null, .ref 5, .null, .null, .null], vm := .statics 10 },
  { cls := 14, slots := #[.ref 5, .null], vm := .statics 14 },
  { cls := 22, slots := #[.null, .null, .null], vm := .statics 22 },
  { cls := 14, slots := #[.null, .null, .null], vm := .none }]
def classes : Array Class := #[k0, k1, k2, k3, k4, k5, k6, k7, k8, k9, k10, k11, k12, k13, k14, k15, k16, k17, k18, k19, k20, k21, k22, k23, k24, k25, k26, k27, k28, k29]
def interned : List (Array UInt16 × Addr) := []
def slotsUsed : Nat := 25
def theMethod : MethodId := ⟨1, 5⟩
def args0 : Array Value := #[.int 8585285, .int 500, .int 258]
def aboutOver (below : List Frame) : State where
  vm := { classes := classes, interned := interned.toArray }
  heap := heap
  slotsUsed := slotsUsed
  threads := #[{ frames := .invoking theMethod args0 :: below }]
def below0 : List Frame := [.native { method := ⟨0, 0⟩, args := #[] }]
def about1 : State := aboutOver below0
def p0 : Program := .bare "" "" ""
def e0 : Env := launch0.env 0 0 0
theorem w_frames : about1.frames = Frame.invoking theMethod args0 :: below0 := rfl
set_option maxRecDepth 65536 in
theorem w_args : argsFit about1.vm theMethod args0 = true := by decide +kernel
set_option maxRecDepth 65536 in
theorem w_heap : heapFits about1 = true := by decide +kernel
set_option maxRecDepth 65536 in
theorem w_runnable : about1.curStatus? = some .runnable := by decide +kernel
set_option maxRecDepth 65536 in
theorem w_alone : about1.alone = true := by decide +kernel
set_option maxRecDepth 65536 in
theorem w_named : about1.methodNamed? x = some theMethod := by decide +kernel
set_option maxRecDepth 65536 in
theorem w_hears : about1.hears theMethod below0 = true := by decide +kernel
set_option maxRecDepth 65536 in
theorem w_ripe : about1.ripe theMethod args0 below0 = true := by decide +kernel
theorem w_running : about1.status = .running := rfl
set_option maxRecDepth 65536 in
theorem w_room : about1.hasRoom e0.platform room_1 = true :=
  launch0.hasRoom_least _ room_1 (by decide +kernel) (by decide +kernel) (by decide +kernel) (by decide +kernel) (by decide +kernel) (by decide +kernel)
theorem allAtoms_all (ts : List Jvm.Cond) (a : Array Jvm.Value) (st : Jvm.State) : (allAtoms ts).before a st = ts.all (fun c => c.before a st) := by
  induction ts with
  | nil => rfl
  | cons c t ih =>
    show (Jvm.Cond.and c (allAtoms t)).before a st = _
    rw [Jvm.Cond.before_and, ih, List.all_cons]
def words1 : List Jvm.Cond := Jvm.Cond.code x code maxLocals ret :: tables_1
/-- a 'code' word, met by the world's own term for the bytes: nothing is compared byte by byte -/
theorem code_word {y : MethodName} {bytes : ByteArray} {mx : Nat} {rt : Option FieldType} {a : Array Value} {s : State} {m : MethodId} {meth : Method} {c : Code} (h1 : s.methodNamed? y = some m) (h2 : s.vm.method? m = some meth) (h3 : meth.code = some c) (h4 : c.code = bytes)
    (h5 : (c.maxLocals == mx && c.exceptionTable.isEmpty && decide (c.maxStack ≤ mostOperands) && decide (meth.sig.returnType = rt) && !meth.locks && decide (parseMethodDescriptor y.desc = some meth.sig)) = true) : (Jvm.Cond.code y bytes mx rt).before a s = true := by
  simp only [Bool.and_eq_true, beq_iff_eq, Bool.not_eq_true', decide_eq_true_eq] at h5
  obtain ⟨⟨⟨⟨⟨g1, g2⟩, g3⟩, g4⟩, g5⟩, g6⟩ := h5
  simp [Cond.before, Cond.holds, Cond.value, h1, h2, h3, h4, g1, g2, g3, g4, g5, g6]
def isCode : Jvm.Cond → Bool
  | .code _ _ _ _ => true
  | _ => false
theorem all_split {L : List Jvm.Cond} {P : Jvm.Cond → Bool} (h1 : L.all (fun c => isCode c || P c) = true) (h2 : ∀ c ∈ L.filter isCode, P c = true) : L.all P = true := by
  refine List.all_eq_true.mpr fun c hc => ?_
  have h := List.all_eq_true.mp h1 c hc
  rcases Bool.eq_false_or_eq_true (isCode c) with hi | hi
  · exact h2 c (List.mem_filter.mpr ⟨hc, hi⟩)
  · simpa [hi] using h
set_option maxRecDepth 65536 in
theorem w_c0 : (Jvm.Cond.code x code maxLocals ret).before args0 about1 = true := code_word (m := ⟨1, 5⟩) (meth := k1m5) (c := k1c5) (by decide +kernel) rfl rfl rfl (by decide +kernel)
set_option maxRecDepth 65536 in
theorem w_c1 : (Jvm.Cond.code ({ cls := "com/example/hermod/hermod/RecordKeysItemPinLaw", name := "pick", desc := "(I)C" } : Jvm.MethodName) method_2_code (2 : Nat) (Option.some Jvm.ClassFile.FieldType.char)).before args0 about1 = true := code_word (m := ⟨1, 1⟩) (meth := k1m1) (c := k1c1) (by decide +kernel) rfl rfl rfl (by decide +kernel)
set_option maxRecDepth 65536 in
theorem w_c2 : (Jvm.Cond.code ({ cls := "com/example/hermod/hermod/RecordKeysItemPinLaw", name := "chars", desc := "(ICC)[C" } : Jvm.MethodName) method_3_code (3 : Nat) (Option.some (Jvm.ClassFile.FieldType.array Jvm.ClassFile.FieldType.char))).before args0 about1 = true := code_word (m := ⟨1, 2⟩) (meth := k1m2) (c := k1c2) (by decide +kernel) rfl rfl rfl (by decide +kernel)
set_option maxRecDepth 65536 in
theorem w_c3 : (Jvm.Cond.code ({ cls := "java/lang/String", name := "<init>", desc := "([C)V" } : Jvm.MethodName) jdk_42_method_3_code (2 : Nat) (Option.none : Option Jvm.ClassFile.FieldType)).before args0 about1 = true := code_word (m := ⟨7, 1⟩) (meth := k7m1) (c := k7c1) (by decide +kernel) rfl rfl rfl (by decide +kernel)
set_option maxRecDepth 65536 in
theorem w_c4 : (Jvm.Cond.code ({ cls := "java/lang/String", name := "<init>", desc := "([CIILjava/lang/Void;)V" } : Jvm.MethodName) jdk_42_method_149_code (6 : Nat) (Option.none : Option Jvm.ClassFile.FieldType)).before args0 about1 = true := code_word (m := ⟨7, 6⟩) (meth := k7m6) (c := k7c6) (by decide +kernel) rfl rfl rfl (by decide +kernel)
set_option maxRecDepth 65536 in
theorem w_c5 : (Jvm.Cond.code ({ cls := "java/lang/Object", name := "<init>", desc := "()V" } : Jvm.MethodName) object_method_1_code (1 : Nat) (Option.none : Option Jvm.ClassFile.FieldType)).before args0 about1 = true := code_word (m := ⟨0, 0⟩) (meth := k0m0) (c := k0c0) (by decide +kernel) rfl rfl rfl (by decide +kernel)
set_option maxRecDepth 65536 in
theorem w_c6 : (Jvm.Cond.code ({ cls := "java/lang/StringUTF16", name := "compress", desc := "([CII)[B" } : Jvm.MethodName) jdk_52_method_16_code (6 : Nat) (Option.some (Jvm.ClassFile.FieldType.array Jvm.ClassFile.FieldType.byte))).before args0 about1 = true := code_word (m := ⟨8, 7⟩) (meth := k8m7) (c := k8c7) (by decide +kernel) rfl rfl rfl (by decide +kernel)
set_option maxRecDepth 65536 in
theorem w_c7 : (Jvm.Cond.code ({ cls := "java/lang/StringUTF16", name := "compress", desc := "([CI[BII)I" } : Jvm.MethodName) jdk_52_method_21_code (7 : Nat) (Option.some Jvm.ClassFile.FieldType.int)).before args0 about1 = true := code_word (m := ⟨8, 8⟩) (meth := k8m8) (c := k8c8) (by decide +kernel) rfl rfl rfl (by decide +kernel)
set_option maxRecDepth 65536 in
theorem w_c8 : (Jvm.Cond.code ({ cls := "java/lang/StringUTF16", name := "coderFromArrayLen", desc := "([BI)B" } : Jvm.MethodName) jdk_52_method_15_code (2 : Nat) (Option.some Jvm.ClassFile.FieldType.byte)).before args0 about1 = true := code_word (m := ⟨8, 6⟩) (meth := k8m6) (c := k8c6) (by decide +kernel) rfl rfl rfl (by decide +kernel)
set_option maxRecDepth 65536 in
theorem w_c9 : (Jvm.Cond.code ({ cls := "com/example/hermod/hermod/RecordKeysItemPinLaw", name := "put", desc := "([BIC)I" } : Jvm.MethodName) method_4_code (4 : Nat) (Option.some Jvm.ClassFile.FieldType.int)).before args0 about1 = true := code_word (m := ⟨1, 3⟩) (meth := k1m3) (c := k1c3) (by decide +kernel) rfl rfl rfl (by decide +kernel)
set_option maxRecDepth 65536 in
theorem w_c10 : (Jvm.Cond.code ({ cls := "com/example/hermod/hermod/RecordKeys", name := "item", desc := "(Ljava/lang/String;Ljava/lang/String;)[B" } : Jvm.MethodName) prog_2_method_3_code (2 : Nat) (Option.some (Jvm.ClassFile.FieldType.array Jvm.ClassFile.FieldType.byte))).before args0 about1 = true := code_word (m := ⟨9, 1⟩) (meth := k9m1) (c := k9c1) (by decide +kernel) rfl rfl rfl (by decide +kernel)
set_option maxRecDepth 65536 in
theorem w_c11 : (Jvm.Cond.code ({ cls := "java/lang/String", name := "getBytes", desc := "(Ljava/nio/charset/Charset;)[B" } : Jvm.MethodName) jdk_42_method_64_code (2 : Nat) (Option.some (Jvm.ClassFile.FieldType.array Jvm.ClassFile.FieldType.byte))).before args0 about1 = true := code_word (m := ⟨7, 5⟩) (meth := k7m5) (c := k7c5) (by decide +kernel) rfl rfl rfl (by decide +kernel)
set_option maxRecDepth 65536 in
theorem w_c12 : (Jvm.Cond.code ({ cls := "java/lang/String", name := "coder", desc := "()B" } : Jvm.MethodName) jdk_42_method_152_code (1 : Nat) (Option.some Jvm.ClassFile.FieldType.byte)).before args0 about1 = true := code_word (m := ⟨7, 7⟩) (meth := k7m7) (c := k7c7) (by decide +kernel) rfl rfl rfl (by decide +kernel)
set_option maxRecDepth 65536 in
theorem w_c13 : (Jvm.Cond.code ({ cls := "java/lang/String", name := "encode", desc := "(Ljava/nio/charset/Charset;B[B)[B" } : Jvm.MethodName) jdk_42_method_18_code (3 : Nat) (Option.some (Jvm.ClassFile.FieldType.array Jvm.ClassFile.FieldType.byte))).before args0 about1 = true := code_word (m := ⟨7, 2⟩) (meth := k7m2) (c := k7c2) (by decide +kernel) rfl rfl rfl (by decide +kernel)
set_option maxRecDepth 65536 in
theorem w_c14 : (Jvm.Cond.code ({ cls := "java/lang/String", name := "encodeUTF8", desc := "(B[BZ)[B" } : Jvm.MethodName) jdk_42_method_46_code (9 : Nat) (Option.some (Jvm.ClassFile.FieldType.array Jvm.ClassFile.FieldType.byte))).before args0 about1 = true := code_word (m := ⟨7, 3⟩) (meth := k7m3) (c := k7c3) (by decide +kernel) rfl rfl rfl (by decide +kernel)
set_option maxRecDepth 65536 in
theorem w_c15 : (Jvm.Cond.code ({ cls := "java/lang/StringCoding", name := "hasNegatives", desc := "([BII)Z" } : Jvm.MethodName) jdk_123_method_2_code (3 : Nat) (Option.some Jvm.ClassFile.FieldType.boolean)).before args0 about1 = true := code_word (m := ⟨15, 1⟩) (meth := k15m1) (c := k15c1) (by decide +kernel) rfl rfl rfl (by decide +kernel)
set_option maxRecDepth 65536 in
theorem w_c16 : (Jvm.Cond.code ({ cls := "java/lang/StringCoding", name := "countPositives", desc := "([BII)I" } : Jvm.MethodName) jdk_123_method_3_code (5 : Nat) (Option.some Jvm.ClassFile.FieldType.int)).before args0 about1 = true := code_word (m := ⟨15, 2⟩) (meth := k15m2) (c := k15c2) (by decide +kernel) rfl rfl rfl (by decide +kernel)
set_option maxRecDepth 65536 in
theorem w_c17 : (Jvm.Cond.code ({ cls := "com/example/hermod/hermod/RecordKeys", name := "item", desc := "(Ljava/lang/String;[B)[B" } : Jvm.MethodName) prog_2_method_4_code (2 : Nat) (Option.some (Jvm.ClassFile.FieldType.array Jvm.ClassFile.FieldType.byte))).before args0 about1 = true := code_word (m := ⟨9, 2⟩) (meth := k9m2) (c := k9c2) (by decide +kernel) rfl rfl rfl (by decide +kernel)
set_option maxRecDepth 65536 in
theorem w_c18 : (Jvm.Cond.code ({ cls := "com/example/hermod/hermod/RecordKeys", name := "withSeparator", desc := "(Ljava/lang/String;B[B)[B" } : Jvm.MethodName) prog_2_method_9_code (5 : Nat) (Option.some (Jvm.ClassFile.FieldType.array Jvm.ClassFile.FieldType.byte))).before args0 about1 = true := code_word (m := ⟨9, 3⟩) (meth := k9m3) (c := k9c3) (by decide +kernel) rfl rfl rfl (by decide +kernel)
set_option maxRecDepth 65536 in
theorem w_c19 : (Jvm.Cond.code ({ cls := "com/example/hermod/hermod/RecordKeysItemPinLaw", name := "at", desc := "([B[BII)Z" } : Jvm.MethodName) method_5_code (4 : Nat) (Option.some Jvm.ClassFile.FieldType.boolean)).before args0 about1 = true := code_word (m := ⟨1, 4⟩) (meth := k1m4) (c := k1c4) (by decide +kernel) rfl rfl rfl (by decide +kernel)
set_option maxRecDepth 65536 in
theorem w_c20 : (Jvm.Cond.code ({ cls := "java/lang/StringUTF16", name := "newBytesFor", desc := "(I)[B" } : Jvm.MethodName) jdk_52_method_2_code (1 : Nat) (Option.some (Jvm.ClassFile.FieldType.array Jvm.ClassFile.FieldType.byte))).before args0 about1 = true := code_word (m := ⟨8, 1⟩) (meth := k8m1) (c := k8c1) (by decide +kernel) rfl rfl rfl (by decide +kernel)
set_option maxRecDepth 65536 in
theorem w_c21 : (Jvm.Cond.code ({ cls := "java/lang/StringUTF16", name := "newBytesLength", desc := "(I)I" } : Jvm.MethodName) jdk_52_method_3_code (1 : Nat) (Option.some Jvm.ClassFile.FieldType.int)).before args0 about1 = true := code_word (m := ⟨8, 2⟩) (meth := k8m2) (c := k8c2) (by decide +kernel) rfl rfl rfl (by decide +kernel)
set_option maxRecDepth 65536 in
theorem w_c22 : (Jvm.Cond.code ({ cls := "java/lang/StringUTF16", name := "toBytes", desc := "([CII)[B" } : Jvm.MethodName) jdk_52_method_14_code (5 : Nat) (Option.some (Jvm.ClassFile.FieldType.array Jvm.ClassFile.FieldType.byte))).before args0 about1 = true := code_word (m := ⟨8, 5⟩) (meth := k8m5) (c := k8c5) (by decide +kernel) rfl rfl rfl (by decide +kernel)
set_option maxRecDepth 65536 in
theorem w_c23 : (Jvm.Cond.code ({ cls := "java/lang/StringUTF16", name := "putChar", desc := "([BII)V" } : Jvm.MethodName) jdk_52_method_4_code (3 : Nat) (Option.none : Option Jvm.ClassFile.FieldType)).before args0 about1 = true := code_word (m := ⟨8, 3⟩) (meth := k8m3) (c := k8c3) (by decide +kernel) rfl rfl rfl (by decide +kernel)
set_option maxRecDepth 65536 in
theorem w_c24 : (Jvm.Cond.code ({ cls := "java/lang/StringUTF16", name := "getChar", desc := "([BI)C" } : Jvm.MethodName) jdk_52_method_5_code (2 : Nat) (Option.some Jvm.ClassFile.FieldType.char)).before args0 about1 = true := code_word (m := ⟨8, 4⟩) (meth := k8m4) (c := k8c4) (by decide +kernel) rfl rfl rfl (by decide +kernel)
set_option maxRecDepth 65536 in
theorem w_c25 : (Jvm.Cond.code ({ cls := "java/lang/String", name := "encodeUTF8_UTF16", desc := "([BZ)[B" } : Jvm.MethodName) jdk_42_method_47_code (9 : Nat) (Option.some (Jvm.ClassFile.FieldType.array Jvm.ClassFile.FieldType.byte))).before args0 about1 = true := code_word (m := ⟨7, 4⟩) (meth := k7m4) (c := k7c4) (by decide +kernel) rfl rfl rfl (by decide +kernel)
set_option maxRecDepth 65536 in
theorem w_c26 : (Jvm.Cond.code ({ cls := "java/lang/Character", name := "isSurrogate", desc := "(C)Z" } : Jvm.MethodName) jdk_89_method_16_code (1 : Nat) (Option.some Jvm.ClassFile.FieldType.boolean)).before args0 about1 = true := code_word (m := ⟨18, 0⟩) (meth := k18m0) (c := k18c0) (by decide +kernel) rfl rfl rfl (by decide +kernel)
set_option maxRecDepth 65536 in
theorem w_c27 : (Jvm.Cond.code ({ cls := "java/util/Arrays", name := "copyOf", desc := "([BI)[B" } : Jvm.MethodName) jdk_65_method_121_code (3 : Nat) (Option.some (Jvm.ClassFile.FieldType.array Jvm.ClassFile.FieldType.byte))).before args0 about1 = true := code_word (m := ⟨19, 1⟩) (meth := k19m1) (c := k19c1) (by decide +kernel) rfl rfl rfl (by decide +kernel)
set_option maxRecDepth 65536 in
theorem w_c28 : (Jvm.Cond.code ({ cls := "java/lang/Math", name := "min", desc := "(II)I" } : Jvm.MethodName) jdk_29_method_69_code (2 : Nat) (Option.some Jvm.ClassFile.FieldType.int)).before args0 about1 = true := code_word (m := ⟨20, 1⟩) (meth := k20m1) (c := k20c1) (by decide +kernel) rfl rfl rfl (by decide +kernel)
def codes1 : List Jvm.Cond := [Jvm.Cond.code x code maxLocals ret, Jvm.Cond.code ({ cls := "com/example/hermod/hermod/RecordKeysItemPinLaw", name := "pick", desc := "(I)C" } : Jvm.MethodName) method_2_code (2 : Nat) (Option.some Jvm.ClassFile.FieldType.char), Jvm.Cond.code ({ cls := "com/example/hermod/hermod/RecordKeysItemPinLaw", name := "chars", desc := "(ICC)[C" } : Jvm.MethodName) method_3_code (3 : Nat) (Option.some (Jvm.ClassFile.FieldType.array Jvm.ClassFile.FieldType.char)), Jvm.Cond.code ({ cls := "java/lang/String", name := "<init>", desc := "([C)V" } : Jvm.MethodName) jdk_42_method_3_code (2 : Nat) (Option.none : Option Jvm.ClassFile.FieldType), Jvm.Cond.code ({ cls := "java/lang/String", name := "<init>", desc := "([CIILjava/lang/Void;)V" } : Jvm.MethodName) jdk_42_method_149_code (6 : Nat) (Option.none : Option Jvm.ClassFile.FieldType), Jvm.Cond.code ({ cls := "java/lang/Object", name := "<init>", desc := "()V" } : Jvm.MethodName) object_method_1_code (1 : Nat) (Option.none : Option Jvm.ClassFile.FieldType), Jvm.Cond.code ({ cls := "java/lang/StringUTF16", name := "compress", desc := "([CII)[B" } : Jvm.MethodName) jdk_52_method_16_code (6 : Nat) (Option.some (Jvm.ClassFile.FieldType.array Jvm.ClassFile.FieldType.byte)), Jvm.Cond.code ({ cls := "java/lang/StringUTF16", name := "compress", desc := "([CI[BII)I" } : Jvm.MethodName) jdk_52_method_21_code (7 : Nat) (Option.some Jvm.ClassFile.FieldType.int), Jvm.Cond.code ({ cls := "java/lang/StringUTF16", name := "coderFromArrayLen", desc := "([BI)B" } : Jvm.MethodName) jdk_52_method_15_code (2 : Nat) (Option.some Jvm.ClassFile.FieldType.byte), Jvm.Cond.code ({ cls := "com/example/hermod/hermod/RecordKeysItemPinLaw", name := "put", desc := "([BIC)I" } : Jvm.MethodName) method_4_code (4 : Nat) (Option.some Jvm.ClassFile.FieldType.int), Jvm.Cond.code ({ cls := "com/example/hermod/hermod/RecordKeys", name := "item", desc := "(Ljava/lang/String;Ljava/lang/String;)[B" } : Jvm.MethodName) prog_2_method_3_code (2 : Nat) (Option.some (Jvm.ClassFile.FieldType.array Jvm.ClassFile.FieldType.byte)), Jvm.Cond.code ({ cls := "java/lang/String", name := "getBytes", desc := "(Ljava/nio/charset/Charset;)[B" } : Jvm.MethodName) jdk_42_method_64_code (2 : Nat) (Option.some (Jvm.ClassFile.FieldType.array Jvm.ClassFile.FieldType.byte)), Jvm.Cond.code ({ cls := "java/lang/String", name := "coder", desc := "()B" } : Jvm.MethodName) jdk_42_method_152_code (1 : Nat) (Option.some Jvm.ClassFile.FieldType.byte), Jvm.Cond.code ({ cls := "java/lang/String", name := "encode", desc := "(Ljava/nio/charset/Charset;B[B)[B" } : Jvm.MethodName) jdk_42_method_18_code (3 : Nat) (Option.some (Jvm.ClassFile.FieldType.array Jvm.ClassFile.FieldType.byte)), Jvm.Cond.code ({ cls := "java/lang/String", name := "encodeUTF8", desc := "(B[BZ)[B" } : Jvm.MethodName) jdk_42_method_46_code (9 : Nat) (Option.some (Jvm.ClassFile.FieldType.array Jvm.ClassFile.FieldType.byte)), Jvm.Cond.code ({ cls := "java/lang/StringCoding", name := "hasNegatives", desc := "([BII)Z" } : Jvm.MethodName) jdk_123_method_2_code (3 : Nat) (Option.some Jvm.ClassFile.FieldType.boolean), Jvm.Cond.code ({ cls := "java/lang/StringCoding", name := "countPositives", desc := "([BII)I" } : Jvm.MethodName) jdk_123_method_3_code (5 : Nat) (Option.some Jvm.ClassFile.FieldType.int), Jvm.Cond.code ({ cls := "com/example/hermod/hermod/RecordKeys", name := "item", desc := "(Ljava/lang/String;[B)[B" } : Jvm.MethodName) prog_2_method_4_code (2 : Nat) (Option.some (Jvm.ClassFile.FieldType.array Jvm.ClassFile.FieldType.byte)), Jvm.Cond.code ({ cls := "com/example/hermod/hermod/RecordKeys", name := "withSeparator", desc := "(Ljava/lang/String;B[B)[B" } : Jvm.MethodName) prog_2_method_9_code (5 : Nat) (Option.some (Jvm.ClassFile.FieldType.array Jvm.ClassFile.FieldType.byte)), Jvm.Cond.code ({ cls := "com/example/hermod/hermod/RecordKeysItemPinLaw", name := "at", desc := "([B[BII)Z" } : Jvm.MethodName) method_5_code (4 : Nat) (Option.some Jvm.ClassFile.FieldType.boolean), Jvm.Cond.code ({ cls := "java/lang/StringUTF16", name := "newBytesFor", desc := "(I)[B" } : Jvm.MethodName) jdk_52_method_2_code (1 : Nat) (Option.some (Jvm.ClassFile.FieldType.array Jvm.ClassFile.FieldType.byte)), Jvm.Cond.code ({ cls := "java/lang/StringUTF16", name := "newBytesLength", desc := "(I)I" } : Jvm.MethodName) jdk_52_method_3_code (1 : Nat) (Option.some Jvm.ClassFile.FieldType.int), Jvm.Cond.code ({ cls := "java/lang/StringUTF16", name := "toBytes", desc := "([CII)[B" } : Jvm.MethodName) jdk_52_method_14_code (5 : Nat) (Option.some (Jvm.ClassFile.FieldType.array Jvm.ClassFile.FieldType.byte)), Jvm.Cond.code ({ cls := "java/lang/StringUTF16", name := "putChar", desc := "([BII)V" } : Jvm.MethodName) jdk_52_method_4_code (3 : Nat) (Option.none : Option Jvm.ClassFile.FieldType), Jvm.Cond.code ({ cls := "java/lang/StringUTF16", name := "getChar", desc := "([BI)C" } : Jvm.MethodName) jdk_52_method_5_code (2 : Nat) (Option.some Jvm.ClassFile.FieldType.char), Jvm.Cond.code ({ cls := "java/lang/String", name := "encodeUTF8_UTF16", desc := "([BZ)[B" } : Jvm.MethodName) jdk_42_method_47_code (9 : Nat) (Option.some (Jvm.ClassFile.FieldType.array Jvm.ClassFile.FieldType.byte)), Jvm.Cond.code ({ cls := "java/lang/Character", name := "isSurrogate", desc := "(C)Z" } : Jvm.MethodName) jdk_89_method_16_code (1 : Nat) (Option.some Jvm.ClassFile.FieldType.boolean), Jvm.Cond.code ({ cls := "java/util/Arrays", name := "copyOf", desc := "([BI)[B" } : Jvm.MethodName) jdk_65_method_121_code (3 : Nat) (Option.some (Jvm.ClassFile.FieldType.array Jvm.ClassFile.FieldType.byte)), Jvm.Cond.code ({ cls := "java/lang/Math", name := "min", desc := "(II)I" } : Jvm.MethodName) jdk_29_method_69_code (2 : Nat) (Option.some Jvm.ClassFile.FieldType.int)]
set_option maxRecDepth 65536 in
theorem codes_eq : words1.filter isCode = codes1 := rfl
theorem w_codes : ∀ c ∈ words1.filter isCode, c.before args0 about1 = true := by
  rw [codes_eq]
  intro c hc
  simp only [codes1, List.mem_cons, List.not_mem_nil, or_false] at hc
  rcases hc with rfl | rfl | rfl | rfl | rfl | rfl | rfl | rfl | rfl | rfl | rfl | rfl | rfl | rfl | rfl | rfl | rfl | rfl | rfl | rfl | rfl | rfl | rfl | rfl | rfl | rfl | rfl | rfl | rfl
  · exact w_c0
  · exact w_c1
  · exact w_c2
  · exact w_c3
  · exact w_c4
  · exact w_c5
  · exact w_c6
  · exact w_c7
  · exact w_c8
  · exact w_c9
  · exact w_c10
  · exact w_c11
  · exact w_c12
  · exact w_c13
  · exact w_c14
  · exact w_c15
  · exact w_c16
  · exact w_c17
  · exact w_c18
  · exact w_c19
  · exact w_c20
  · exact w_c21
  · exact w_c22
  · exact w_c23
  · exact w_c24
  · exact w_c25
  · exact w_c26
  · exact w_c27
  · exact w_c28
set_option maxRecDepth 65536 in
theorem w_t1 : (words1.take 24).all (fun c => isCode c || c.before args0 about1) = true := by decide +kernel
set_option maxRecDepth 65536 in
theorem w_t2 : ((words1.drop 24).take 24).all (fun c => isCode c || c.before args0 about1) = true := by decide +kernel
set_option maxRecDepth 65536 in
theorem w_t3 : (((words1.drop 24).drop 24).take 24).all (fun c => isCode c || c.before args0 about1) = true := by decide +kernel
set_option maxRecDepth 65536 in
theorem w_t4 : ((((words1.drop 24).drop 24).drop 24).take 24).all (fun c => isCode c || c.before args0 about1) = true := by decide +kernel
set_option maxRecDepth 65536 in
theorem w_t5 : (((((words1.drop 24).drop 24).drop 24).drop 24).take 24).all (fun c => isCode c || c.before args0 about1) = true := by decide +kernel
set_option maxRecDepth 65536 in
theorem w_t6 : (((((words1.drop 24).drop 24).drop 24).drop 24).drop 24).all (fun c => isCode c || c.before args0 about1) = true := by decide +kernel
theorem w_tables : (allAtoms (Jvm.Cond.code x code maxLocals ret :: tables_1)).before args0 about1 = true := by
  rw [allAtoms_all]
  show words1.all (fun c => c.before args0 about1) = true
  refine all_split ?_ w_codes
  rw [← List.take_append_drop 24 words1, List.all_append, w_t1, ← List.take_append_drop 24 (words1.drop 24), List.all_append, w_t2, ← List.take_append_drop 24 ((words1.drop 24).drop 24), List.all_append, w_t3, ← List.take_append_drop 24 (((words1.drop 24).drop 24).drop 24), List.all_append, w_t4, ← List.take_append_drop 24 ((((words1.drop 24).drop 24).drop 24).drop 24), List.all_append, w_t5, w_t6]
  rfl
set_option maxRecDepth 65536 in
theorem w_rest : rest_1_c.before args0 about1 = true := by decide +kernel
set_option maxRecDepth 65536 in
theorem w_case : (Jvm.Cond.and given_1 narrow_1).before args0 about1 = true := by decide +kernel
set_option maxRecDepth 65536 in
theorem w_consts : constsHeld consts_1 about1 := Jvm.Lit.constsHeldB_iff.mp (by decide +kernel)
theorem w_applies : (headSpec (Jvm.Cond.code x code maxLocals ret :: tables_1) room_1).applies x e0.platform about1 = true :=
  (Spec.applies_iff w_frames).mpr ⟨w_running, w_runnable, w_alone, w_named, w_hears, w_ripe, w_room, w_tables⟩
theorem atStart : AtStart classFile x code maxLocals ret World_1 tables_1 room_1 Calls_1 rest_1 Pre_1 launch0 p0 e0 about1 theMethod args0 below0 :=
  ⟨lists_1, trivial, launch0.admits_env _ _ _, launch0.least_env, fairChoices_fair.cas, fairChoices_fair.clock, w_frames, w_args, w_heap, w_applies, ⟨w_consts, trivial⟩, w_rest, w_case⟩
end start1
theorem witness_1 : WitnessClaimed_1 := ⟨start1.p0, start1.e0, start1.about1, start1.theMethod, start1.args0, start1.below0, start1.atStart⟩
end Jvm.Pilot.@@N@@
