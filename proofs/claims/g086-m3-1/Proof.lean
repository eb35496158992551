import JvmDerived
import JvmDerived.Pilot.@@N@@Statement
import JvmDerived.Pilot.@@N@@Code
set_option linter.unusedVariables false
set_option linter.unusedSimpArgs false
namespace Jvm.RoadKit
open Sem ClassFile Op Lib Jvm.Stand Jvm.Free Jvm.LawKit
section Own
variable {p : Program} {l : Launch} {e : Env} {R : Room} {s : State} {m : MethodId} {args : Array Value} {below : List Frame} {meth : Method} {c : Code} {T : State} {locs : List Loc} {cells slots : Nat} {Z : State} {h h' : Heap} {a b : Addr}
/-- from the state U the method runs to its end, and what it leaves is as G says -/
def own_Go (p : Program) (e : Env) (below : List Frame) (G : Outcome → State → Prop) (U : State) : Prop := ∃ s₂ o, Steps p.tables e below U s₂ ∧ s₂.status = .running ∧ Ended s₂ below o ∧ G o s₂
def own_G (s : State) (Q : Option Value → Heap → List Loc → Prop) (C N : Nat) : Outcome → State → Prop := fun o U' => ∃ v L, o = .returned v ∧ Q v U'.heap L ∧ FrameEnd s o U' L C N
theorem own_st {G : Outcome → State → Prop} {U V : State} (hs : ∀ t, Steps p.tables e below V t → Steps p.tables e below U t) (k : own_Go p e below G V) : own_Go p e below G U := by
  obtain ⟨s₂, o, h1, h2⟩ := k
  exact ⟨s₂, o, hs _ h1, h2⟩
theorem own_retI (X : Stand p l e R s m args below meth c T locs cells slots) (hx : p.tables.exec = Jvm.exec) (hlocks : meth.locks = false) {pc : Nat} {Ls : Array Slot} {z : Int32} {rest : List Value} (hret : meth.sig.returnType = some .int) (hd : decode c.code pc = .ok (.ireturn, 1)) {Q : Option Value → Heap → List Loc → Prop} {C N : Nat}
    (hQ : Q (some (.int z)) T.heap locs) (hC : cells ≤ C) (hN : slots ≤ N) : own_Go p e below (own_G s Q C N) (T.setTop (mkF m pc Ls (.int z :: rest))) := by
  obtain ⟨fs, hr, hrun, hended, hW, hsame⟩ := X.leave (v := some (.int z)) (fun h => by rw [hret] at h; cases h)
  refine ⟨_, _, ?_, hrun, hended, _, _, rfl, hQ, ⟨_, rfl⟩, hW, hsame.mono hC hN⟩
  have hm' : T.vm.method? m = some meth := X.method'
  have hn : narrow .int (.int z) = .int z := rfl
  show Steps p.tables e below (T.setTop { method := m, pc := pc, locals := Ls, stack := _ :: rest, locked := none }) _
  jvm_step X.here [X.here.top, hx, hd, hm', hret, hn]
  first | (intro acts; rw [hr _ acts rfl rfl rfl]) | rw [hr _ _ rfl rfl rfl]
  exact Steps.refl _
theorem own_retN (X : Stand p l e R s m args below meth c T locs cells slots) (hx : p.tables.exec = Jvm.exec) (hlocks : meth.locks = false) {pc : Nat} {Ls : Array Slot} {z z' : Int32} {t : FieldType} {rest : List Value} (hret : meth.sig.returnType = some t) (ht : t = .boolean ∨ t = .byte ∨ t = .char ∨ t = .short) (hz : nar t z = z') (hd : decode c.code pc = .ok (.ireturn, 1)) {Q : Option Value → Heap → List Loc → Prop} {C N : Nat}
    (hQ : Q (some (.int z')) T.heap locs) (hC : cells ≤ C) (hN : slots ≤ N) : own_Go p e below (own_G s Q C N) (T.setTop (mkF m pc Ls (.int z :: rest))) := by
  subst hz
  obtain ⟨fs, hr, hrun, hended, hW, hsame⟩ := X.leave (v := some (.int (nar t z))) (fun h => by rw [hret] at h; cases h)
  exact ⟨_, _, retN X hx hret ht hd hr, hrun, hended, _, _, rfl, hQ, ⟨_, rfl⟩, hW, hsame.mono hC hN⟩
theorem own_retJ (X : Stand p l e R s m args below meth c T locs cells slots) (hx : p.tables.exec = Jvm.exec) (hlocks : meth.locks = false) {pc : Nat} {Ls : Array Slot} {z : Int64} (hret : meth.sig.returnType = some .long) (hd : decode c.code pc = .ok (.lreturn, 1)) {Q : Option Value → Heap → List Loc → Prop} {C N : Nat}
    (hQ : Q (some (.long z)) T.heap locs) (hC : cells ≤ C) (hN : slots ≤ N) : own_Go p e below (own_G s Q C N) (T.setTop (mkF m pc Ls [.long z])) := by
  obtain ⟨fs, hr, hrun, hended, hW, hsame⟩ := X.leave (v := some (.long z)) (fun h => by rw [hret] at h; cases h)
  exact ⟨_, _, X.lreturnOut hx hret hd hr, hrun, hended, _, _, rfl, hQ, ⟨_, rfl⟩, hW, hsame.mono hC hN⟩
theorem own_ret0 (X : Stand p l e R s m args below meth c T locs cells slots) (hx : p.tables.exec = Jvm.exec) (hlocks : meth.locks = false) {pc : Nat} {Ls : Array Slot} (hret : meth.sig.returnType = none) (hd : decode c.code pc = .ok (.return_, 1)) {Q : Option Value → Heap → List Loc → Prop} {C N : Nat}
    (hQ : Q none T.heap locs) (hC : cells ≤ C) (hN : slots ≤ N) : own_Go p e below (own_G s Q C N) (T.setTop (mkF m pc Ls [])) := by
  obtain ⟨fs, hr, hrun, hended, hW, hsame⟩ := X.leave (v := none) (fun _ => rfl)
  exact ⟨_, _, X.returnOut hx hret hd hr, hrun, hended, _, _, rfl, hQ, ⟨_, rfl⟩, hW, hsame.mono hC hN⟩
theorem own_z0 {i j : Nat} (q : i = 0) : i ≤ j := q ▸ Nat.zero_le j
/-! arrays of ints (or bytes), of longs: their length and their elements by a plain function -/
def own_Ai (Z : State) (h : Heap) (a : Addr) (ty : FieldType) (n : Nat) (f : Nat → Int32) : Prop := ∃ c : Cell, Arr Z h a c ty ∧ c.slots.size = n ∧ ∀ i, i < n → c.slots[i]? = some (.int (f i))
def own_Aj (Z : State) (h : Heap) (a : Addr) (ty : FieldType) (n : Nat) (f : Nat → Int64) : Prop := ∃ c : Cell, Arr Z h a c ty ∧ c.slots.size = n ∧ ∀ i, i < n → c.slots[i]? = some (.long (f i))
def own_up (f : Nat → Int32) (k : Nat) (x : Int32) : Nat → Int32 := fun i => if i = k then x else f i
def own_upJ (f : Nat → Int64) (k : Nat) (x : Int64) : Nat → Int64 := fun i => if i = k then x else f i
theorem own_up_at (f : Nat → Int32) (k : Nat) (x : Int32) (i : Nat) : own_up f k x i = if i = k then x else f i := rfl
theorem own_upJ_at (f : Nat → Int64) (k : Nat) (x : Int64) (i : Nat) : own_upJ f k x i = if i = k then x else f i := rfl
variable {ty : FieldType} {n : Nat} {f : Nat → Int32} {fj : Nat → Int64} {ws : List Addr} {sl : Nat} {v : Value}
theorem own_Ai.lt (F : own_Ai Z h a ty n f) : a < h.size := by obtain ⟨c, A, -⟩ := F; exact A.lt
theorem own_Aj.lt (F : own_Aj Z h a ty n fj) : a < h.size := by obtain ⟨c, A, -⟩ := F; exact A.lt
theorem own_Ai.ext (F : own_Ai Z h a ty n f) (E : Ext h h') : own_Ai Z h' a ty n f := by obtain ⟨c, A, r⟩ := F; exact ⟨c, A.ext E, r⟩
theorem own_Aj.ext (F : own_Aj Z h a ty n fj) (E : Ext h h') : own_Aj Z h' a ty n fj := by obtain ⟨c, A, r⟩ := F; exact ⟨c, A.ext E, r⟩
theorem own_Ai.other (F : own_Ai Z h b ty n f) (W : Wr h h' a sl v) (q : b ≠ a) : own_Ai Z h' b ty n f := by obtain ⟨c, A, r⟩ := F; exact ⟨c, A.other W q, r⟩
theorem own_Aj.other (F : own_Aj Z h b ty n fj) (W : Wr h h' a sl v) (q : b ≠ a) : own_Aj Z h' b ty n fj := by obtain ⟨c, A, r⟩ := F; exact ⟨c, A.other W q, r⟩
theorem own_Ai.keep (F : own_Ai Z h a ty n f) (K : Keep h h' ws) (q : a ∉ ws) : own_Ai Z h' a ty n f := by obtain ⟨c, A, r⟩ := F; exact ⟨c, ⟨K.2.1 a c A.1 q, A.2⟩, r⟩
theorem own_Aj.keep (F : own_Aj Z h a ty n fj) (K : Keep h h' ws) (q : a ∉ ws) : own_Aj Z h' a ty n fj := by obtain ⟨c, A, r⟩ := F; exact ⟨c, ⟨K.2.1 a c A.1 q, A.2⟩, r⟩
theorem own_Ai.neq {a0 : Array Value} {k : Nat} {C : String} (F : own_Ai Z h b ty n f) (E : Exa Z h a C) (wi : (Cond.instantiable C k).before a0 Z = true) : a ≠ b := by obtain ⟨c, A, -⟩ := F; exact ne_arr E wi A
theorem own_Aj.neq {a0 : Array Value} {k : Nat} {C : String} (F : own_Aj Z h b ty n fj) (E : Exa Z h a C) (wi : (Cond.instantiable C k).before a0 Z = true) : a ≠ b := by obtain ⟨c, A, -⟩ := F; exact ne_arr E wi A
theorem own_nat {j : Int32} {k : Nat} (hj : j.toInt = k) : j.toNatClampNeg = k := by simp only [Int32.toNatClampNeg, hj]; rfl
theorem own_in {j : Int32} {k n : Nat} (hj : j.toInt = k) (hk : k < n) : ¬ (j < 0 ∨ n ≤ j.toNatClampNeg) := by
  rw [own_nat hj, Int32.lt_iff_toInt_lt, hj, show (0 : Int32).toInt = 0 from rfl]; omega
theorem own_len {z : Int32} (hz : z.toInt = n) : n.toInt32 = z := by
  have := Int32.toInt_lt z
  exact Int32.toInt_inj.mp (by rw [Int32.toInt_ofNat_small (by omega), hz])
theorem own_iaload (X : Stand p l e R s m args below meth c T locs cells slots) (hx : p.tables.exec = Jvm.exec) (hZ : Z.Warmed39 s.vm) (eT : T.heap = h) (A : own_Ai Z h a .int n f) {j : Int32} {k : Nat} (hj : j.toInt = k) (hk : k < n) {g : JFrame} (hg : g.method = m) {rest : List Value} (hs : g.stack = .int j :: .ref a :: rest) (hd : decode c.code g.pc = .ok (.iaload, 1)) {target : State}
    (hr : Steps p.tables e below (T.setTop { g with pc := g.pc + 1, stack := .int (f k) :: rest }) target) : Steps p.tables e below (T.setTop g) target := by
  obtain ⟨cl, A, S, H⟩ := A
  exact X.iaload hx (j := j) (v := .int (f k)) (by rw [eT]; exact A.1) (State.isArrayOf_alike hZ.alike A.2.1) A.2.2 (by rw [S]; exact own_in hj hk) (by rw [own_nat hj]; exact H k hk) hg hs hd _ hr
theorem own_baload (X : Stand p l e R s m args below meth c T locs cells slots) (hx : p.tables.exec = Jvm.exec) (hZ : Z.Warmed39 s.vm) (eT : T.heap = h) (A : own_Ai Z h a .byte n f) {j : Int32} {k : Nat} (hj : j.toInt = k) (hk : k < n) {g : JFrame} (hg : g.method = m) {rest : List Value} (hs : g.stack = .int j :: .ref a :: rest) (hd : decode c.code g.pc = .ok (.baload, 1)) {target : State}
    (hr : Steps p.tables e below (T.setTop { g with pc := g.pc + 1, stack := .int (f k) :: rest }) target) : Steps p.tables e below (T.setTop g) target := by
  obtain ⟨cl, A, S, H⟩ := A
  exact X.baloadBytes hx (j := j) (v := .int (f k)) (by rw [eT]; exact A.1) (State.isArrayOf_alike hZ.alike A.2.1) A.2.2 (by rw [S]; exact own_in hj hk) (by rw [own_nat hj]; exact H k hk) hg hs hd _ hr
theorem own_laload (X : Stand p l e R s m args below meth c T locs cells slots) (hx : p.tables.exec = Jvm.exec) (hZ : Z.Warmed39 s.vm) (eT : T.heap = h) (A : own_Aj Z h a .long n fj) {j : Int32} {k : Nat} (hj : j.toInt = k) (hk : k < n) {g : JFrame} (hg : g.method = m) {rest : List Value} (hs : g.stack = .int j :: .ref a :: rest) (hd : decode c.code g.pc = .ok (.laload, 1)) {target : State}
    (hr : Steps p.tables e below (T.setTop { g with pc := g.pc + 1, stack := .long (fj k) :: rest }) target) : Steps p.tables e below (T.setTop g) target := by
  obtain ⟨cl, A, S, H⟩ := A
  exact X.laload hx (j := j) (v := .long (fj k)) (by rw [eT]; exact A.1) (State.isArrayOf_alike hZ.alike A.2.1) A.2.2 (by rw [S]; exact own_in hj hk) (by rw [own_nat hj]; exact H k hk) hg hs hd _ hr
theorem own_alen (X : Stand p l e R s m args below meth c T locs cells slots) (hx : p.tables.exec = Jvm.exec) (hZ : Z.Warmed39 s.vm) (eT : T.heap = h) (A : own_Ai Z h a ty n f) {z : Int32} (hz : z.toInt = n) {g : JFrame} (hg : g.method = m) {rest : List Value} (hs : g.stack = .ref a :: rest) (hd : decode c.code g.pc = .ok (.arraylength, 1)) {target : State}
    (hr : Steps p.tables e below (T.setTop { g with pc := g.pc + 1, stack := .int z :: rest }) target) : Steps p.tables e below (T.setTop g) target := by
  obtain ⟨cl, A, S, H⟩ := A
  refine X.arraylength hx (by rw [eT]; exact A.1) (State.isArrayOf_alike hZ.alike A.2.1) hg hs hd _ ?_
  rw [S, own_len hz]; exact hr
theorem own_Ai.set (F : own_Ai Z h a ty n f) {j : Nat} {x : Int32} (W : Wr h h' a j (.int x)) : own_Ai Z h' a ty n (own_up f j x) := by
  obtain ⟨cl, A, S, H⟩ := F
  refine ⟨_, A.same W, by rw [sz_set]; exact S, fun i hi => ?_⟩
  rw [own_up_at]
  by_cases q : i = j
  · subst q
    rw [if_pos rfl]
    simp [Cell.setSlot, S, hi]
  · rw [if_neg q, show (cl.setSlot j (.int x)).slots[i]? = cl.slots[i]? from Array.getElem?_setIfInBounds_ne (Ne.symm q)]
    exact H i hi
theorem own_Aj.set (F : own_Aj Z h a ty n fj) {j : Nat} {x : Int64} (W : Wr h h' a j (.long x)) : own_Aj Z h' a ty n (own_upJ fj j x) := by
  obtain ⟨cl, A, S, H⟩ := F
  refine ⟨_, A.same W, by rw [sz_set]; exact S, fun i hi => ?_⟩
  rw [own_upJ_at]
  by_cases q : i = j
  · subst q
    rw [if_pos rfl]
    simp [Cell.setSlot, S, hi]
  · rw [if_neg q, show (cl.setSlot j (.long x)).slots[i]? = cl.slots[i]? from Array.getElem?_setIfInBounds_ne (Ne.symm q)]
    exact H i hi
theorem own_iastore (X : Stand p l e R s m args below meth c T locs cells slots) (hx : p.tables.exec = Jvm.exec) (hZ : Z.Warmed39 s.vm) (eT : T.heap = h) (A : own_Ai Z h a .int n f) {j x : Int32} {k : Nat} (hj : j.toInt = k) (hk : k < n) {g : JFrame} (hg : g.method = m) {rest : List Value} (hs : g.stack = .int x :: .int j :: .ref a :: rest) (hd : decode c.code g.pc = .ok (.iastore, 1)) :
    ∃ T' h', Stand p l e R s m args below meth c T' (locs ++ [⟨a, k⟩]) cells slots ∧ T'.heap = h' ∧ Wr h h' a k (.int x) ∧ own_Ai Z h' a .int n (own_up f k x) ∧ ∀ target, Steps p.tables e below (T'.setTop { g with pc := g.pc + 1, stack := rest }) target → Steps p.tables e below (T.setTop g) target := by
  obtain ⟨cl, B, S, H⟩ := id A
  obtain ⟨T', h', X', e', W, st⟩ := stI X hx hZ eT B (j := j) (x := x) (by rw [S]; exact own_in hj hk) hg hs hd
  rw [own_nat hj] at X' W
  exact ⟨T', h', X', e', W, A.set W, st⟩
theorem own_bastore (X : Stand p l e R s m args below meth c T locs cells slots) (hx : p.tables.exec = Jvm.exec) (hZ : Z.Warmed39 s.vm) (eT : T.heap = h) (A : own_Ai Z h a .byte n f) {j x : Int32} {k : Nat} (hj : j.toInt = k) (hk : k < n) {g : JFrame} (hg : g.method = m) {rest : List Value} (hs : g.stack = .int x :: .int j :: .ref a :: rest) (hd : decode c.code g.pc = .ok (.bastore, 1)) :
    ∃ T' h', Stand p l e R s m args below meth c T' (locs ++ [⟨a, k⟩]) cells slots ∧ T'.heap = h' ∧ Wr h h' a k (.int x.toInt8.toInt32) ∧ own_Ai Z h' a .byte n (own_up f k x.toInt8.toInt32) ∧ ∀ target, Steps p.tables e below (T'.setTop { g with pc := g.pc + 1, stack := rest }) target → Steps p.tables e below (T.setTop g) target := by
  obtain ⟨cl, B, S, H⟩ := id A
  obtain ⟨T', h', X', e', W, st⟩ := stB X hx hZ eT B (j := j) (x := x) (by rw [S]; exact own_in hj hk) hg hs hd
  rw [own_nat hj] at X' W
  exact ⟨T', h', X', e', W, A.set W, st⟩
theorem own_lastore (X : Stand p l e R s m args below meth c T locs cells slots) (hx : p.tables.exec = Jvm.exec) (hZ : Z.Warmed39 s.vm) (eT : T.heap = h) (A : own_Aj Z h a .long n fj) {j : Int32} {x : Int64} {k : Nat} (hj : j.toInt = k) (hk : k < n) {g : JFrame} (hg : g.method = m) {rest : List Value} (hs : g.stack = .long x :: .int j :: .ref a :: rest) (hd : decode c.code g.pc = .ok (.lastore, 1)) :
    ∃ T' h', Stand p l e R s m args below meth c T' (locs ++ [⟨a, k⟩]) cells slots ∧ T'.heap = h' ∧ Wr h h' a k (.long x) ∧ own_Aj Z h' a .long n (own_upJ fj k x) ∧ ∀ target, Steps p.tables e below (T'.setTop { g with pc := g.pc + 1, stack := rest }) target → Steps p.tables e below (T.setTop g) target := by
  obtain ⟨cl, B, S, H⟩ := id A
  obtain ⟨T', h', X', e', W, st⟩ := stJ X hx hZ eT B (j := j) (x := x) (by rw [S]; exact own_in hj hk) hg hs hd
  rw [own_nat hj] at X' W
  exact ⟨T', h', X', e', W, A.set W, st⟩
theorem own_newarr (X : Stand p l e R s m args below meth c T locs cells slots) (hx : p.tables.exec = Jvm.exec) (hZ : Z.Warmed39 s.vm) {a0 : Array Value} {aty : ArrayType} (w : (Cond.arrayClass (newarray.typeOf aty)).before a0 Z = true) (eT : T.heap = h) {g : JFrame} (hg : g.method = m) (hd : decode c.code g.pc = .ok (.newarray aty, 2)) {z : Int32} {rest : List Value} (hs : g.stack = .int z :: rest) {k : Nat}
    (hz : z.toInt = k) {cap : Nat} (hcap : k ≤ cap) (hb : cap * 8 ≤ 536870912) (hc : cells + 1 ≤ R.cells) (hl : slots + cap ≤ R.slots) :
    ∃ T' h' cl, Stand p l e R s m args below meth c T' locs (cells + 1) (slots + cap) ∧ T'.heap = h' ∧ Ext h h' ∧ (Arr Z h' h.size cl (newarray.typeOf aty) ∧ cl.slots = Array.replicate k (defaultValue (newarray.typeOf aty))) ∧
      ∀ target, Steps p.tables e below (T'.setTop { g with pc := g.pc + 2, stack := .ref h.size :: rest }) target → Steps p.tables e below (T.setTop g) target := by
  have hn : ¬ z < 0 := by rw [Int32.lt_iff_toInt_lt, hz, show (0 : Int32).toInt = 0 from rfl]; omega
  obtain ⟨T', h', cA, X', e', E, A, st⟩ := newP X hx hZ w eT hg hd hs hn (by rw [own_nat hz]; exact hcap) hb hc hl
  exact ⟨T', h', _, X', e', E, ⟨A, by simp [newA, own_nat hz]⟩, st⟩
theorem own_Ai.new {cl : Cell} {k : Nat} (A : Arr Z h a cl ty ∧ cl.slots = Array.replicate k (.int 0)) : own_Ai Z h a ty k (fun _ => 0) :=
  ⟨cl, A.1, by rw [A.2]; simp, fun i hi => by rw [A.2]; simp [hi]⟩
theorem own_Aj.new {cl : Cell} {k : Nat} (A : Arr Z h a cl ty ∧ cl.slots = Array.replicate k (.long 0)) : own_Aj Z h a ty k (fun _ => 0) :=
  ⟨cl, A.1, by rw [A.2]; simp, fun i hi => by rw [A.2]; simp [hi]⟩
theorem own_l_lt (x y : Int64) {b : Bool} (h : if_icmp.holds .lt (lcmpW x y) 0 = b) : ifCond.holds .lt (lcmpW x y) = b := (if0 _ _).trans h
end Own
end Jvm.RoadKit
namespace Jvm.Pilot.@@N@@
open Jvm Jvm.ClassFile Sem Op Lib Jvm.Free Jvm.Stand Jvm.LawKit Jvm.RoadKit Bundle Jvm.Pilot.@@N@@.Jvm.D
theorem own_can (a b : Int64) : (a + b) - a = b := by rw [Int64.add_comm, Int64.add_sub_cancel]
theorem own_mul64 (a b : Int64) (h0 : 0 ≤ a.toInt * b.toInt) (h1 : a.toInt * b.toInt < 9223372036854775808) : (a * b).toInt = a.toInt * b.toInt := by
  have h2 := c_lmul a b
  have h3 := rng64 (a * b)
  generalize a.toInt * b.toInt = q at *
  omega
theorem own_div64 (a f : Int64) (ha : 0 ≤ a.toInt) (hf : 1 ≤ f.toInt) : (a / f).toInt = a.toInt / f.toInt :=
  (c_ldiv a f f.toInt rfl (fun e => by rw [e] at hf; revert hf; decide)).1 ha
theorem own_lt64 {a b : Int64} : a < b ↔ a.toInt < b.toInt := Int64.lt_iff_toInt_lt
theorem own_nz64 {a : Int64} (h : 1 ≤ a.toInt) : a ≠ 0 := fun e => by rw [e] at h; revert h; decide
theorem own_pos64 (a : Int64) : 0 ≤ (a &&& 9223372036854775807).toInt := by
  rw [c_maskL a 9223372036854775807 63 (by decide) (by decide)]; omega
def own_A (f b t w : Int64) : Int32 := if (w - b) / f < t then 0 else 1
def own_mx (a b : Int64) : Int64 := if a < b then b else a
def own_E (f t v : Int64) : Int32 := if t = 0 then 1 else if (9223372036854775807 : Int64) / t < f then 0 else if v < t * f then 0 else 1
theorem own_fin (f t v : Int64) (hf : 1 ≤ f.toInt) (ht : 0 ≤ t.toInt) (hv : 0 ≤ v.toInt) : (if v / f < t then (0 : Int32) else 1) = own_E f t v := by
  have eM : (9223372036854775807 : Int64).toInt = 9223372036854775807 := by decide
  have e0 : (0 : Int64).toInt = 0 := by decide
  have q1 := own_div64 v f hv hf
  have hv1 := rng64 v
  unfold own_E
  by_cases c1 : t = 0
  · rw [if_pos c1, if_neg]
    rw [own_lt64, q1, c1, e0]
    have := Int.ediv_nonneg hv (show 0 ≤ f.toInt by omega)
    omega
  · rw [if_neg c1]
    have ht1 : 1 ≤ t.toInt := by
      have : t.toInt ≠ 0 := fun e => c1 (Int64.toInt_inj.mp e)
      omega
    have q2 := own_div64 9223372036854775807 t (by decide) ht1
    rw [eM] at q2
    by_cases c2 : (9223372036854775807 : Int64) / t < f
    · rw [if_pos c2, if_pos]
      rw [own_lt64, q2, Int.ediv_lt_iff_lt_mul (by omega)] at c2
      rw [own_lt64, q1, Int.ediv_lt_iff_lt_mul (by omega), Int.mul_comm]
      omega
    · rw [if_neg c2]
      rw [own_lt64, q2] at c2
      have hc : f.toInt * t.toInt ≤ 9223372036854775807 := (Int.le_ediv_iff_mul_le (by omega)).mp (by omega)
      rw [Int.mul_comm] at hc
      have em := own_mul64 t f (Int.mul_nonneg ht (by omega)) (by omega)
      have e : (v / f < t) ↔ (v < t * f) := by rw [own_lt64, own_lt64, q1, em, Int.ediv_lt_iff_lt_mul (by omega)]
      by_cases c3 : v < t * f
      · rw [if_pos c3, if_pos (e.mpr c3)]
      · rw [if_neg c3, if_neg (fun z => c3 (e.mp z))]
theorem own_law (f t v a b : Int64) (hf : 1 ≤ f.toInt) (ht : 0 ≤ t.toInt) (hv : 0 ≤ v.toInt) : own_A f b ((a + t) - a) (b + v) = own_E f t v := by
  unfold own_A; rw [own_can, own_can]; exact own_fin f t v hf ht hv
theorem own_f1 (z : Int64) : 1 ≤ ((z &&& 65535) + 1).toInt := by
  have h1 := c_maskL z 65535 16 (by decide) (by decide)
  have h2 := c_ladd (z &&& 65535) 1
  have h3 := rng64 ((z &&& 65535) + 1)
  have e1 : (1 : Int64).toInt = 1 := by decide
  rw [h1, e1] at h2
  omega
theorem own_t0 (z : Int64) : 0 ≤ (z &&& 65535).toInt := by
  rw [c_maskL z 65535 16 (by decide) (by decide)]; omega
theorem own_mx0 (z : Int64) : 0 ≤ (own_mx 0 z).toInt := by
  have e0 : (0 : Int64).toInt = 0 := by decide
  unfold own_mx; split
  · rename_i q; rw [own_lt64] at q; omega
  · decide
theorem own_mx1 (z : Int64) : 1 ≤ (own_mx 1 z).toInt := by
  have e0 : (1 : Int64).toInt = 1 := by decide
  unfold own_mx; split
  · rename_i q; rw [own_lt64] at q; omega
  · decide
theorem d1_0 : decode prog_29_method_1_code 0 = .ok (.aload_n 0, 1) := by decide +kernel
theorem d1_1 : decode prog_29_method_1_code 1 = .ok (.invokespecial 1, 3) := by decide +kernel
theorem d1_4 : decode prog_29_method_1_code 4 = .ok (.aload_n 0, 1) := by decide +kernel
theorem d1_5 : decode prog_29_method_1_code 5 = .ok (.lload_n 1, 1) := by decide +kernel
theorem d1_6 : decode prog_29_method_1_code 6 = .ok (.putfield 7, 3) := by decide +kernel
theorem d1_9 : decode prog_29_method_1_code 9 = .ok (.aload_n 0, 1) := by decide +kernel
theorem d1_10 : decode prog_29_method_1_code 10 = .ok (.lload_n 3, 1) := by decide +kernel
theorem d1_11 : decode prog_29_method_1_code 11 = .ok (.putfield 13, 3) := by decide +kernel
theorem d1_14 : decode prog_29_method_1_code 14 = .ok (.return_, 1) := by decide +kernel
theorem pn_1 : plainName "com/example/headwater/headwater/connectors/ListingPace" = true := by first | (simp [plainName, overriddenIn]; done) | decide +kernel
theorem ef_1 (m : MethodId) (x0 : Addr) (x1 : Int64) (x2 : Int64) : entryFrame m #[(.ref x0), (.long x1), (.long x2)] 5 = mkF m 0 #[.val (.ref x0), .val (.long x1), .second, .val (.long x2), .second] [] := by first | (simp [entryFrame, mkF, argsToLocals, Value.category]; done) | rfl
def Q1 (Z : State) (ob : Addr) (f0 : Int64) (b0 : Int64) (h0 : Heap) (n0 : Nat) (v : Option Value) (h : Heap) (L : List Loc) : Prop := v = none ∧ Fr n0 L ∧ Keep h0 h [ob] ∧ (Exa Z h ob "com/example/headwater/headwater/connectors/ListingPace") ∧ (Fld Z h ob "com/example/headwater/headwater/connectors/ListingPace" "factor" "J" (.long f0)) ∧ (Fld Z h ob "com/example/headwater/headwater/connectors/ListingPace" "began" "J" (.long b0)) ∧ (Fld Z h ob "com/example/headwater/headwater/connectors/ListingPace" "took" "J" (.long (0 : Int64)))
set_option maxRecDepth 65536 in
set_option maxHeartbeats 40000000 in
theorem rm1 (l : Launch) (Z : State) (a0 : Array Value) (hw : ∀ d ∈ tables_1, d.before a0 Z = true) (ws : List Jvm.Cond) (ob : Addr) (f0 : Int64) (b0 : Int64) (h0 : Heap) (n0 : Nat) (Z0 : n0 ≤ h0.size) (E1 : Exa Z h0 ob "com/example/headwater/headwater/connectors/ListingPace") (F1 : Fld Z h0 ob "com/example/headwater/headwater/connectors/ListingPace" "factor" "J" (.long (0 : Int64))) (F2 : Fld Z h0 ob "com/example/headwater/headwater/connectors/ListingPace" "began" "J" (.long (0 : Int64))) (F3 : Fld Z h0 ob "com/example/headwater/headwater/connectors/ListingPace" "took" "J" (.long (0 : Int64))) (G1 : n0 ≤ ob) :
    MetFree l (⟨"com/example/headwater/headwater/connectors/ListingPace", "<init>", "(JJ)V"⟩ : MethodName) (head1 (Jvm.Cond.code (⟨"com/example/headwater/headwater/connectors/ListingPace", "<init>", "(JJ)V"⟩ : MethodName) prog_29_method_1_code 5 none :: ws) ({ frames := 1, cells := 0, slots := 0, locals := 12 } : Room)) (fun a U => a = #[(.ref ob), (.long f0), (.long b0)] ∧ Z.Warmed39 U.vm ∧ U.heap = h0) (fun _ _ _ _ _ => True) (fun _ U o U' => ∃ v L, o = .returned v ∧ Q1 Z ob f0 b0 h0 n0 v U'.heap L ∧ FrameEnd U o U' L ({ frames := 1, cells := 0, slots := 0, locals := 12 } : Room).cells ({ frames := 1, cells := 0, slots := 0, locals := 12 } : Room).slots) := by
  refine MetFree.of_bodySF (plainFor_of_name pn_1) hisR ?_
  intro p e s m args below meth c s₁ Bd hml0 hP hK
  obtain ⟨rfl, hZ, hh⟩ := hP
  have hx := Bd.exec
  have hby := Bd.bytes
  have hlk : meth.locks = false := BodyLoose.notSynchronized Bd
  have hml : c.maxLocals = 5 := hml0
  have hown : s.vm.findClass "com/example/headwater/headwater/connectors/ListingPace" = some m.cls := findClass_of_methodNamed Bd.named
  have hnm := (name_of_methodNamed Bd.named Bd.method).1
  have X0 : Stand p l e ({ frames := 1, cells := 0, slots := 0, locals := 12 } : Room) s m #[(.ref ob), (.long f0), (.long b0)] below meth c s₁ [] 0 0 := Stand.of_body Bd
  have e0 : s₁.heap = h0 := by rw [← hh, Bd.state]; rfl
  have N0 := Fr.nil n0
  have K0 : Keep h0 h0 [ob] := Keep.refl _ _
  show own_Go p e below (own_G s (Q1 Z ob f0 b0 h0 n0) ({ frames := 1, cells := 0, slots := 0, locals := 12 } : Room).cells ({ frames := 1, cells := 0, slots := 0, locals := 12 } : Room).slots) (s₁.setTop (entryFrame m #[(.ref ob), (.long f0), (.long b0)] 5))
  refine own_st (fun tgt k => castTop (ef_1 m ob f0 b0) k) ?_
  show own_Go p e below _ (s₁.setTop (mkF m 0 #[.val (.ref ob), .val (.long f0), .second, .val (.long b0), .second] []))
  refine own_st (V := s₁.setTop (mkF m 1 #[.val (.ref ob), .val (.long f0), .second, .val (.long b0), .second] [(.ref ob)])) (fun tgt k => ?_) ?_
  · show Steps p.tables e below (s₁.setTop (mkF m 0 #[.val (.ref ob), .val (.long f0), .second, .val (.long b0), .second] [])) tgt
    refine XS.aloadN X0.here hx rfl (hb hby d1_0) rfl rfl ?_
    exact k
  obtain ⟨T1, X1, e1, st1⟩ := initO X0 hx hZ hown (hw _ (List.mem_of_getElem? (i := 7) rfl)) (hw _ (List.mem_of_getElem? (i := 8) rfl)) (hw _ (List.mem_of_getElem? (i := 9) rfl)) e0 (g := (mkF m 1 #[.val (.ref ob), .val (.long f0), .second, .val (.long b0), .second] [(.ref ob)])) rfl (by rw [hml]; rfl) rfl (hb hby d1_1) (by decide) (W := 0) (by show 2 * 0 + _ ≤ _; exact Nat.le_of_eq rfl) (by decide)
  refine own_st st1 ?_
  show own_Go p e below _ (T1.setTop (mkF m 4 #[.val (.ref ob), .val (.long f0), .second, .val (.long b0), .second] []))
  refine own_st (V := T1.setTop (mkF m 6 #[.val (.ref ob), .val (.long f0), .second, .val (.long b0), .second] [(.long f0), (.ref ob)])) (fun tgt k => ?_) ?_
  · show Steps p.tables e below (T1.setTop (mkF m 4 #[.val (.ref ob), .val (.long f0), .second, .val (.long b0), .second] [])) tgt
    refine XS.aloadN X1.here hx rfl (hb hby d1_4) rfl rfl ?_
    show Steps p.tables e below (T1.setTop (mkF m 5 #[.val (.ref ob), .val (.long f0), .second, .val (.long b0), .second] [(.ref ob)])) tgt
    refine XS.lloadN X1.here hx rfl (hb hby d1_5) rfl ?_
    exact k
  obtain ⟨T2, h2, X2, e2, W2, st2⟩ := putF X1 hx hZ hown (host := "") (Or.inl (hw _ (List.mem_of_getElem? (i := 10) rfl))) Via.refl e1 F1 E1 (Or.inr ⟨(hw _ (List.mem_of_getElem? (i := 11) rfl)), rfl, hnm⟩) (hw _ (List.mem_of_getElem? (i := 2) rfl)) (ty := .long) (by decide) rfl rfl (g := (mkF m 6 #[.val (.ref ob), .val (.long f0), .second, .val (.long b0), .second] [(.long f0), (.ref ob)])) rfl rfl (hb hby d1_6)
  have E_ob_2 := E1.wr W2
  have F_ob_began_2 := Fld.other W2 F2 (Or.inr (slot_ne (Or.inl (hw _ (List.mem_of_getElem? (i := 13) rfl))) (Or.inr (hw _ (List.mem_of_getElem? (i := 11) rfl))) (by decide) (t := .long) (t' := .long) (by decide) (by decide)))
  have F_ob_took_2 := Fld.other W2 F3 (Or.inr (slot_ne (Or.inl (hw _ (List.mem_of_getElem? (i := 20) rfl))) (Or.inr (hw _ (List.mem_of_getElem? (i := 11) rfl))) (by decide) (t := .long) (t' := .long) (by decide) (by decide)))
  have F_ob_factor_2 := Fld.same W2 F1
  have N2 := Fr.snoc X2 N0 G1
  have Zs2 : n0 ≤ h2.size := Nat.le_trans Z0 (Keep.of_wr W2).1
  have Kp2 := K0.wr W2 (Or.inl (List.mem_of_getElem? (i := 0) rfl))
  refine own_st st2 ?_
  show own_Go p e below _ (T2.setTop (mkF m 9 #[.val (.ref ob), .val (.long f0), .second, .val (.long b0), .second] []))
  refine own_st (V := T2.setTop (mkF m 11 #[.val (.ref ob), .val (.long f0), .second, .val (.long b0), .second] [(.long b0), (.ref ob)])) (fun tgt k => ?_) ?_
  · show Steps p.tables e below (T2.setTop (mkF m 9 #[.val (.ref ob), .val (.long f0), .second, .val (.long b0), .second] [])) tgt
    refine XS.aloadN X2.here hx rfl (hb hby d1_9) rfl rfl ?_
    show Steps p.tables e below (T2.setTop (mkF m 10 #[.val (.ref ob), .val (.long f0), .second, .val (.long b0), .second] [(.ref ob)])) tgt
    refine XS.lloadN X2.here hx rfl (hb hby d1_10) rfl ?_
    exact k
  obtain ⟨T3, h3, X3, e3, W3, st3⟩ := putF X2 hx hZ hown (host := "") (Or.inl (hw _ (List.mem_of_getElem? (i := 12) rfl))) Via.refl e2 F_ob_began_2 E_ob_2 (Or.inl (hw _ (List.mem_of_getElem? (i := 13) rfl))) (hw _ (List.mem_of_getElem? (i := 2) rfl)) (ty := .long) (by decide) rfl rfl (g := (mkF m 11 #[.val (.ref ob), .val (.long f0), .second, .val (.long b0), .second] [(.long b0), (.ref ob)])) rfl rfl (hb hby d1_11)
  have E_ob_3 := E_ob_2.wr W3
  have F_ob_factor_3 := Fld.other W3 F_ob_factor_2 (Or.inr (slot_ne (Or.inr (hw _ (List.mem_of_getElem? (i := 11) rfl))) (Or.inl (hw _ (List.mem_of_getElem? (i := 13) rfl))) (by decide) (t := .long) (t' := .long) (by decide) (by decide)))
  have F_ob_took_3 := Fld.other W3 F_ob_took_2 (Or.inr (slot_ne (Or.inl (hw _ (List.mem_of_getElem? (i := 20) rfl))) (Or.inl (hw _ (List.mem_of_getElem? (i := 13) rfl))) (by decide) (t := .long) (t' := .long) (by decide) (by decide)))
  have F_ob_began_3 := Fld.same W3 F_ob_began_2
  have N3 := Fr.snoc X3 N2 G1
  have Zs3 : n0 ≤ h3.size := Nat.le_trans Zs2 (Keep.of_wr W3).1
  have Kp3 := Kp2.wr W3 (Or.inl (List.mem_of_getElem? (i := 0) rfl))
  refine own_st st3 ?_
  show own_Go p e below _ (T3.setTop (mkF m 14 #[.val (.ref ob), .val (.long f0), .second, .val (.long b0), .second] []))
  refine own_ret0 X3 hx hlk Bd.returns (hb hby d1_14) ?_ (by decide) (by decide)
  show Q1 Z ob f0 b0 h0 n0 none T3.heap _
  rw [e3]
  exact ⟨rfl, N3, Kp3, E_ob_3, F_ob_factor_3, F_ob_began_3, F_ob_took_3⟩
theorem d3_0 : decode prog_29_method_5_code 0 = .ok (.aload_n 0, 1) := by decide +kernel
theorem d3_1 : decode prog_29_method_5_code 1 = .ok (.lload_n 1, 1) := by decide +kernel
theorem d3_2 : decode prog_29_method_5_code 2 = .ok (.aload_n 0, 1) := by decide +kernel
theorem d3_3 : decode prog_29_method_5_code 3 = .ok (.getfield 13, 3) := by decide +kernel
theorem d3_6 : decode prog_29_method_5_code 6 = .ok (.lsub, 1) := by decide +kernel
theorem d3_7 : decode prog_29_method_5_code 7 = .ok (.putfield 16, 3) := by decide +kernel
theorem d3_10 : decode prog_29_method_5_code 10 = .ok (.return_, 1) := by decide +kernel
theorem pn_3 : plainName "com/example/headwater/headwater/connectors/ListingPace" = true := by first | (simp [plainName, overriddenIn]; done) | decide +kernel
theorem ef_3 (m : MethodId) (x0 : Addr) (x1 : Int64) : entryFrame m #[(.ref x0), (.long x1)] 3 = mkF m 0 #[.val (.ref x0), .val (.long x1), .second] [] := by first | (simp [entryFrame, mkF, argsToLocals, Value.category]; done) | rfl
def Q3 (Z : State) (ob : Addr) (vv : Int64) (fc : Int64) (bg : Int64) (tk : Int64) (h0 : Heap) (n0 : Nat) (v : Option Value) (h : Heap) (L : List Loc) : Prop := v = none ∧ Fr n0 L ∧ Keep h0 h [ob] ∧ (Exa Z h ob "com/example/headwater/headwater/connectors/ListingPace") ∧ (Fld Z h ob "com/example/headwater/headwater/connectors/ListingPace" "factor" "J" (.long fc)) ∧ (Fld Z h ob "com/example/headwater/headwater/connectors/ListingPace" "began" "J" (.long bg)) ∧ (Fld Z h ob "com/example/headwater/headwater/connectors/ListingPace" "took" "J" (.long (vv - bg)))
set_option maxRecDepth 65536 in
set_option maxHeartbeats 40000000 in
theorem rm3 (l : Launch) (Z : State) (a0 : Array Value) (hw : ∀ d ∈ tables_1, d.before a0 Z = true) (ws : List Jvm.Cond) (ob : Addr) (vv : Int64) (fc : Int64) (bg : Int64) (tk : Int64) (h0 : Heap) (n0 : Nat) (Z0 : n0 ≤ h0.size) (E1 : Exa Z h0 ob "com/example/headwater/headwater/connectors/ListingPace") (F1 : Fld Z h0 ob "com/example/headwater/headwater/connectors/ListingPace" "factor" "J" (.long fc)) (F2 : Fld Z h0 ob "com/example/headwater/headwater/connectors/ListingPace" "began" "J" (.long bg)) (F3 : Fld Z h0 ob "com/example/headwater/headwater/connectors/ListingPace" "took" "J" (.long tk)) (G1 : n0 ≤ ob) :
    MetFree l (⟨"com/example/headwater/headwater/connectors/ListingPace", "ended", "(J)V"⟩ : MethodName) (head1 (Jvm.Cond.code (⟨"com/example/headwater/headwater/connectors/ListingPace", "ended", "(J)V"⟩ : MethodName) prog_29_method_5_code 3 none :: ws) ({ frames := 0, cells := 0, slots := 0, locals := 0 } : Room)) (fun a U => a = #[(.ref ob), (.long vv)] ∧ Z.Warmed39 U.vm ∧ U.heap = h0) (fun _ _ _ _ _ => True) (fun _ U o U' => ∃ v L, o = .returned v ∧ Q3 Z ob vv fc bg tk h0 n0 v U'.heap L ∧ FrameEnd U o U' L ({ frames := 0, cells := 0, slots := 0, locals := 0 } : Room).cells ({ frames := 0, cells := 0, slots := 0, locals := 0 } : Room).slots) := by
  refine MetFree.of_bodySF (plainFor_of_name pn_3) hisR ?_
  intro p e s m args below meth c s₁ Bd hml0 hP hK
  obtain ⟨rfl, hZ, hh⟩ := hP
  have hx := Bd.exec
  have hby := Bd.bytes
  have hlk : meth.locks = false := BodyLoose.notSynchronized Bd
  have hml : c.maxLocals = 3 := hml0
  have hown : s.vm.findClass "com/example/headwater/headwater/connectors/ListingPace" = some m.cls := findClass_of_methodNamed Bd.named
  have hnm := (name_of_methodNamed Bd.named Bd.method).1
  have X0 : Stand p l e ({ frames := 0, cells := 0, slots := 0, locals := 0 } : Room) s m #[(.ref ob), (.long vv)] below meth c s₁ [] 0 0 := Stand.of_body Bd
  have e0 : s₁.heap = h0 := by rw [← hh, Bd.state]; rfl
  have N0 := Fr.nil n0
  have K0 : Keep h0 h0 [ob] := Keep.refl _ _
  show own_Go p e below (own_G s (Q3 Z ob vv fc bg tk h0 n0) ({ frames := 0, cells := 0, slots := 0, locals := 0 } : Room).cells ({ frames := 0, cells := 0, slots := 0, locals := 0 } : Room).slots) (s₁.setTop (entryFrame m #[(.ref ob), (.long vv)] 3))
  refine own_st (fun tgt k => castTop (ef_3 m ob vv) k) ?_
  show own_Go p e below _ (s₁.setTop (mkF m 0 #[.val (.ref ob), .val (.long vv), .second] []))
  refine own_st (V := s₁.setTop (mkF m 3 #[.val (.ref ob), .val (.long vv), .second] [(.ref ob), (.long vv), (.ref ob)])) (fun tgt k => ?_) ?_
  · show Steps p.tables e below (s₁.setTop (mkF m 0 #[.val (.ref ob), .val (.long vv), .second] [])) tgt
    refine XS.aloadN X0.here hx rfl (hb hby d3_0) rfl rfl ?_
    show Steps p.tables e below (s₁.setTop (mkF m 1 #[.val (.ref ob), .val (.long vv), .second] [(.ref ob)])) tgt
    refine XS.lloadN X0.here hx rfl (hb hby d3_1) rfl ?_
    show Steps p.tables e below (s₁.setTop (mkF m 2 #[.val (.ref ob), .val (.long vv), .second] [(.long vv), (.ref ob)])) tgt
    refine XS.aloadN X0.here hx rfl (hb hby d3_2) rfl rfl ?_
    exact k
  obtain ⟨T1, X1, e1, st1⟩ := getF X0 hx hZ hown (host := "") (Or.inl (hw _ (List.mem_of_getElem? (i := 12) rfl))) Via.refl e0 F2 (g := (mkF m 3 #[.val (.ref ob), .val (.long vv), .second] [(.ref ob), (.long vv), (.ref ob)])) rfl rfl (hb hby d3_3)
  refine own_st st1 ?_
  show own_Go p e below _ (T1.setTop (mkF m 6 #[.val (.ref ob), .val (.long vv), .second] [(.long bg), (.long vv), (.ref ob)]))
  refine own_st (V := T1.setTop (mkF m 7 #[.val (.ref ob), .val (.long vv), .second] [(.long (vv - bg)), (.ref ob)])) (fun tgt k => ?_) ?_
  · show Steps p.tables e below (T1.setTop (mkF m 6 #[.val (.ref ob), .val (.long vv), .second] [(.long bg), (.long vv), (.ref ob)])) tgt
    refine XS.lsub X1.here hx rfl (hb hby d3_6) rfl ?_
    exact k
  obtain ⟨T2, h2, X2, e2, W2, st2⟩ := putF X1 hx hZ hown (host := "") (Or.inl (hw _ (List.mem_of_getElem? (i := 19) rfl))) Via.refl e1 F3 E1 (Or.inl (hw _ (List.mem_of_getElem? (i := 20) rfl))) (hw _ (List.mem_of_getElem? (i := 2) rfl)) (ty := .long) (by decide) rfl rfl (g := (mkF m 7 #[.val (.ref ob), .val (.long vv), .second] [(.long (vv - bg)), (.ref ob)])) rfl rfl (hb hby d3_7)
  have E_ob_2 := E1.wr W2
  have F_ob_factor_2 := Fld.other W2 F1 (Or.inr (slot_ne (Or.inr (hw _ (List.mem_of_getElem? (i := 11) rfl))) (Or.inl (hw _ (List.mem_of_getElem? (i := 20) rfl))) (by decide) (t := .long) (t' := .long) (by decide) (by decide)))
  have F_ob_began_2 := Fld.other W2 F2 (Or.inr (slot_ne (Or.inl (hw _ (List.mem_of_getElem? (i := 13) rfl))) (Or.inl (hw _ (List.mem_of_getElem? (i := 20) rfl))) (by decide) (t := .long) (t' := .long) (by decide) (by decide)))
  have F_ob_took_2 := Fld.same W2 F3
  have N2 := Fr.snoc X2 N0 G1
  have Zs2 : n0 ≤ h2.size := Nat.le_trans Z0 (Keep.of_wr W2).1
  have Kp2 := K0.wr W2 (Or.inl (List.mem_of_getElem? (i := 0) rfl))
  refine own_st st2 ?_
  show own_Go p e below _ (T2.setTop (mkF m 10 #[.val (.ref ob), .val (.long vv), .second] []))
  refine own_ret0 X2 hx hlk Bd.returns (hb hby d3_10) ?_ (by decide) (by decide)
  show Q3 Z ob vv fc bg tk h0 n0 none T2.heap _
  rw [e2]
  exact ⟨rfl, N2, Kp2, E_ob_2, F_ob_factor_2, F_ob_began_2, F_ob_took_2⟩
theorem d7_0 : decode prog_29_method_4_code 0 = .ok (.aload_n 0, 1) := by decide +kernel
theorem d7_1 : decode prog_29_method_4_code 1 = .ok (.lload_n 1, 1) := by decide +kernel
theorem d7_2 : decode prog_29_method_4_code 2 = .ok (.putfield 13, 3) := by decide +kernel
theorem d7_5 : decode prog_29_method_4_code 5 = .ok (.return_, 1) := by decide +kernel
theorem pn_7 : plainName "com/example/headwater/headwater/connectors/ListingPace" = true := by first | (simp [plainName, overriddenIn]; done) | decide +kernel
theorem ef_7 (m : MethodId) (x0 : Addr) (x1 : Int64) : entryFrame m #[(.ref x0), (.long x1)] 3 = mkF m 0 #[.val (.ref x0), .val (.long x1), .second] [] := by first | (simp [entryFrame, mkF, argsToLocals, Value.category]; done) | rfl
def Q7 (Z : State) (ob : Addr) (vv : Int64) (fc : Int64) (bg : Int64) (tk : Int64) (h0 : Heap) (n0 : Nat) (v : Option Value) (h : Heap) (L : List Loc) : Prop := v = none ∧ Fr n0 L ∧ Keep h0 h [ob] ∧ (Exa Z h ob "com/example/headwater/headwater/connectors/ListingPace") ∧ (Fld Z h ob "com/example/headwater/headwater/connectors/ListingPace" "factor" "J" (.long fc)) ∧ (Fld Z h ob "com/example/headwater/headwater/connectors/ListingPace" "began" "J" (.long vv)) ∧ (Fld Z h ob "com/example/headwater/headwater/connectors/ListingPace" "took" "J" (.long tk))
set_option maxRecDepth 65536 in
set_option maxHeartbeats 40000000 in
theorem rm7 (l : Launch) (Z : State) (a0 : Array Value) (hw : ∀ d ∈ tables_1, d.before a0 Z = true) (ws : List Jvm.Cond) (ob : Addr) (vv : Int64) (fc : Int64) (bg : Int64) (tk : Int64) (h0 : Heap) (n0 : Nat) (Z0 : n0 ≤ h0.size) (E1 : Exa Z h0 ob "com/example/headwater/headwater/connectors/ListingPace") (F1 : Fld Z h0 ob "com/example/headwater/headwater/connectors/ListingPace" "factor" "J" (.long fc)) (F2 : Fld Z h0 ob "com/example/headwater/headwater/connectors/ListingPace" "began" "J" (.long bg)) (F3 : Fld Z h0 ob "com/example/headwater/headwater/connectors/ListingPace" "took" "J" (.long tk)) (G1 : n0 ≤ ob) :
    MetFree l (⟨"com/example/headwater/headwater/connectors/ListingPace", "began", "(J)V"⟩ : MethodName) (head1 (Jvm.Cond.code (⟨"com/example/headwater/headwater/connectors/ListingPace", "began", "(J)V"⟩ : MethodName) prog_29_method_4_code 3 none :: ws) ({ frames := 0, cells := 0, slots := 0, locals := 0 } : Room)) (fun a U => a = #[(.ref ob), (.long vv)] ∧ Z.Warmed39 U.vm ∧ U.heap = h0) (fun _ _ _ _ _ => True) (fun _ U o U' => ∃ v L, o = .returned v ∧ Q7 Z ob vv fc bg tk h0 n0 v U'.heap L ∧ FrameEnd U o U' L ({ frames := 0, cells := 0, slots := 0, locals := 0 } : Room).cells ({ frames := 0, cells := 0, slots := 0, locals := 0 } : Room).slots) := by
  refine MetFree.of_bodySF (plainFor_of_name pn_7) hisR ?_
  intro p e s m args below meth c s₁ Bd hml0 hP hK
  obtain ⟨rfl, hZ, hh⟩ := hP
  have hx := Bd.exec
  have hby := Bd.bytes
  have hlk : meth.locks = false := BodyLoose.notSynchronized Bd
  have hml : c.maxLocals = 3 := hml0
  have hown : s.vm.findClass "com/example/headwater/headwater/connectors/ListingPace" = some m.cls := findClass_of_methodNamed Bd.named
  have hnm := (name_of_methodNamed Bd.named Bd.method).1
  have X0 : Stand p l e ({ frames := 0, cells := 0, slots := 0, locals := 0 } : Room) s m #[(.ref ob), (.long vv)] below meth c s₁ [] 0 0 := Stand.of_body Bd
  have e0 : s₁.heap = h0 := by rw [← hh, Bd.state]; rfl
  have N0 := Fr.nil n0
  have K0 : Keep h0 h0 [ob] := Keep.refl _ _
  show own_Go p e below (own_G s (Q7 Z ob vv fc bg tk h0 n0) ({ frames := 0, cells := 0, slots := 0, locals := 0 } : Room).cells ({ frames := 0, cells := 0, slots := 0, locals := 0 } : Room).slots) (s₁.setTop (entryFrame m #[(.ref ob), (.long vv)] 3))
  refine own_st (fun tgt k => castTop (ef_7 m ob vv) k) ?_
  show own_Go p e below _ (s₁.setTop (mkF m 0 #[.val (.ref ob), .val (.long vv), .second] []))
  refine own_st (V := s₁.setTop (mkF m 2 #[.val (.ref ob), .val (.long vv), .second] [(.long vv), (.ref ob)])) (fun tgt k => ?_) ?_
  · show Steps p.tables e below (s₁.setTop (mkF m 0 #[.val (.ref ob), .val (.long vv), .second] [])) tgt
    refine XS.aloadN X0.here hx rfl (hb hby d7_0) rfl rfl ?_
    show Steps p.tables e below (s₁.setTop (mkF m 1 #[.val (.ref ob), .val (.long vv), .second] [(.ref ob)])) tgt
    refine XS.lloadN X0.here hx rfl (hb hby d7_1) rfl ?_
    exact k
  obtain ⟨T1, h1, X1, e1, W1, st1⟩ := putF X0 hx hZ hown (host := "") (Or.inl (hw _ (List.mem_of_getElem? (i := 12) rfl))) Via.refl e0 F2 E1 (Or.inl (hw _ (List.mem_of_getElem? (i := 13) rfl))) (hw _ (List.mem_of_getElem? (i := 2) rfl)) (ty := .long) (by decide) rfl rfl (g := (mkF m 2 #[.val (.ref ob), .val (.long vv), .second] [(.long vv), (.ref ob)])) rfl rfl (hb hby d7_2)
  have E_ob_1 := E1.wr W1
  have F_ob_factor_1 := Fld.other W1 F1 (Or.inr (slot_ne (Or.inr (hw _ (List.mem_of_getElem? (i := 11) rfl))) (Or.inl (hw _ (List.mem_of_getElem? (i := 13) rfl))) (by decide) (t := .long) (t' := .long) (by decide) (by decide)))
  have F_ob_took_1 := Fld.other W1 F3 (Or.inr (slot_ne (Or.inl (hw _ (List.mem_of_getElem? (i := 20) rfl))) (Or.inl (hw _ (List.mem_of_getElem? (i := 13) rfl))) (by decide) (t := .long) (t' := .long) (by decide) (by decide)))
  have F_ob_began_1 := Fld.same W1 F2
  have N1 := Fr.snoc X1 N0 G1
  have Zs1 : n0 ≤ h1.size := Nat.le_trans Z0 (Keep.of_wr W1).1
  have Kp1 := K0.wr W1 (Or.inl (List.mem_of_getElem? (i := 0) rfl))
  refine own_st st1 ?_
  show own_Go p e below _ (T1.setTop (mkF m 5 #[.val (.ref ob), .val (.long vv), .second] []))
  refine own_ret0 X1 hx hlk Bd.returns (hb hby d7_5) ?_ (by decide) (by decide)
  show Q7 Z ob vv fc bg tk h0 n0 none T1.heap _
  rw [e1]
  exact ⟨rfl, N1, Kp1, E_ob_1, F_ob_factor_1, F_ob_began_1, F_ob_took_1⟩
theorem d4_0 : decode prog_29_method_2_code 0 = .ok (.lload_n 1, 1) := by decide +kernel
theorem d4_1 : decode prog_29_method_2_code 1 = .ok (.aload_n 0, 1) := by decide +kernel
theorem d4_2 : decode prog_29_method_2_code 2 = .ok (.getfield 13, 3) := by decide +kernel
theorem d4_5 : decode prog_29_method_2_code 5 = .ok (.lsub, 1) := by decide +kernel
theorem d4_6 : decode prog_29_method_2_code 6 = .ok (.aload_n 0, 1) := by decide +kernel
theorem d4_7 : decode prog_29_method_2_code 7 = .ok (.getfield 7, 3) := by decide +kernel
theorem d4_10 : decode prog_29_method_2_code 10 = .ok (.ldiv, 1) := by decide +kernel
theorem d4_11 : decode prog_29_method_2_code 11 = .ok (.aload_n 0, 1) := by decide +kernel
theorem d4_12 : decode prog_29_method_2_code 12 = .ok (.getfield 16, 3) := by decide +kernel
theorem d4_15 : decode prog_29_method_2_code 15 = .ok (.lcmp, 1) := by decide +kernel
theorem d4_16 : decode prog_29_method_2_code 16 = .ok (.ifCond .lt 7, 3) := by decide +kernel
theorem d4_19 : decode prog_29_method_2_code 19 = .ok (.iconst 1, 1) := by decide +kernel
theorem d4_20 : decode prog_29_method_2_code 20 = .ok (.goto 4, 3) := by decide +kernel
theorem d4_23 : decode prog_29_method_2_code 23 = .ok (.iconst 0, 1) := by decide +kernel
theorem d4_24 : decode prog_29_method_2_code 24 = .ok (.ireturn, 1) := by decide +kernel
theorem pn_4 : plainName "com/example/headwater/headwater/connectors/ListingPace" = true := by first | (simp [plainName, overriddenIn]; done) | decide +kernel
theorem ef_4 (m : MethodId) (x0 : Addr) (x1 : Int64) : entryFrame m #[(.ref x0), (.long x1)] 3 = mkF m 0 #[.val (.ref x0), .val (.long x1), .second] [] := by first | (simp [entryFrame, mkF, argsToLocals, Value.category]; done) | rfl
def Q4 (Z : State) (ob : Addr) (nw : Int64) (fc : Int64) (bg : Int64) (tk : Int64) (h0 : Heap) (n0 : Nat) (v : Option Value) (h : Heap) (L : List Loc) : Prop := v = some (.int (own_A fc bg tk nw)) ∧ Fr n0 L ∧ h = h0
set_option maxRecDepth 65536 in
set_option maxHeartbeats 40000000 in
theorem rm4 (l : Launch) (Z : State) (a0 : Array Value) (hw : ∀ d ∈ tables_1, d.before a0 Z = true) (ws : List Jvm.Cond) (ob : Addr) (nw : Int64) (fc : Int64) (bg : Int64) (tk : Int64) (h0 : Heap) (n0 : Nat) (Z0 : n0 ≤ h0.size) (E1 : Exa Z h0 ob "com/example/headwater/headwater/connectors/ListingPace") (F1 : Fld Z h0 ob "com/example/headwater/headwater/connectors/ListingPace" "factor" "J" (.long fc)) (F2 : Fld Z h0 ob "com/example/headwater/headwater/connectors/ListingPace" "began" "J" (.long bg)) (F3 : Fld Z h0 ob "com/example/headwater/headwater/connectors/ListingPace" "took" "J" (.long tk)) (NZ : fc ≠ 0) :
    MetFree l (⟨"com/example/headwater/headwater/connectors/ListingPace", "allows", "(J)Z"⟩ : MethodName) (head1 (Jvm.Cond.code (⟨"com/example/headwater/headwater/connectors/ListingPace", "allows", "(J)Z"⟩ : MethodName) prog_29_method_2_code 3 (some .boolean) :: ws) ({ frames := 0, cells := 0, slots := 0, locals := 0 } : Room)) (fun a U => a = #[(.ref ob), (.long nw)] ∧ Z.Warmed39 U.vm ∧ U.heap = h0) (fun _ _ _ _ _ => True) (fun _ U o U' => ∃ v L, o = .returned v ∧ Q4 Z ob nw fc bg tk h0 n0 v U'.heap L ∧ FrameEnd U o U' L ({ frames := 0, cells := 0, slots := 0, locals := 0 } : Room).cells ({ frames := 0, cells := 0, slots := 0, locals := 0 } : Room).slots) := by
  refine MetFree.of_bodySF (plainFor_of_name pn_4) hisR ?_
  intro p e s m args below meth c s₁ Bd hml0 hP hK
  obtain ⟨rfl, hZ, hh⟩ := hP
  have hx := Bd.exec
  have hby := Bd.bytes
  have hlk : meth.locks = false := BodyLoose.notSynchronized Bd
  have hml : c.maxLocals = 3 := hml0
  have hown : s.vm.findClass "com/example/headwater/headwater/connectors/ListingPace" = some m.cls := findClass_of_methodNamed Bd.named
  have hnm := (name_of_methodNamed Bd.named Bd.method).1
  have X0 : Stand p l e ({ frames := 0, cells := 0, slots := 0, locals := 0 } : Room) s m #[(.ref ob), (.long nw)] below meth c s₁ [] 0 0 := Stand.of_body Bd
  have e0 : s₁.heap = h0 := by rw [← hh, Bd.state]; rfl
  have N0 := Fr.nil n0
  show own_Go p e below (own_G s (Q4 Z ob nw fc bg tk h0 n0) ({ frames := 0, cells := 0, slots := 0, locals := 0 } : Room).cells ({ frames := 0, cells := 0, slots := 0, locals := 0 } : Room).slots) (s₁.setTop (entryFrame m #[(.ref ob), (.long nw)] 3))
  refine own_st (fun tgt k => castTop (ef_4 m ob nw) k) ?_
  show own_Go p e below _ (s₁.setTop (mkF m 0 #[.val (.ref ob), .val (.long nw), .second] []))
  refine own_st (V := s₁.setTop (mkF m 2 #[.val (.ref ob), .val (.long nw), .second] [(.ref ob), (.long nw)])) (fun tgt k => ?_) ?_
  · show Steps p.tables e below (s₁.setTop (mkF m 0 #[.val (.ref ob), .val (.long nw), .second] [])) tgt
    refine XS.lloadN X0.here hx rfl (hb hby d4_0) rfl ?_
    show Steps p.tables e below (s₁.setTop (mkF m 1 #[.val (.ref ob), .val (.long nw), .second] [(.long nw)])) tgt
    refine XS.aloadN X0.here hx rfl (hb hby d4_1) rfl rfl ?_
    exact k
  obtain ⟨T1, X1, e1, st1⟩ := getF X0 hx hZ hown (host := "") (Or.inl (hw _ (List.mem_of_getElem? (i := 12) rfl))) Via.refl e0 F2 (g := (mkF m 2 #[.val (.ref ob), .val (.long nw), .second] [(.ref ob), (.long nw)])) rfl rfl (hb hby d4_2)
  refine own_st st1 ?_
  show own_Go p e below _ (T1.setTop (mkF m 5 #[.val (.ref ob), .val (.long nw), .second] [(.long bg), (.long nw)]))
  refine own_st (V := T1.setTop (mkF m 7 #[.val (.ref ob), .val (.long nw), .second] [(.ref ob), (.long (nw - bg))])) (fun tgt k => ?_) ?_
  · show Steps p.tables e below (T1.setTop (mkF m 5 #[.val (.ref ob), .val (.long nw), .second] [(.long bg), (.long nw)])) tgt
    refine XS.lsub X1.here hx rfl (hb hby d4_5) rfl ?_
    show Steps p.tables e below (T1.setTop (mkF m 6 #[.val (.ref ob), .val (.long nw), .second] [(.long (nw - bg))])) tgt
    refine XS.aloadN X1.here hx rfl (hb hby d4_6) rfl rfl ?_
    exact k
  obtain ⟨T2, X2, e2, st2⟩ := getF X1 hx hZ hown (host := "") (Or.inl (hw _ (List.mem_of_getElem? (i := 10) rfl))) Via.refl e1 F1 (g := (mkF m 7 #[.val (.ref ob), .val (.long nw), .second] [(.ref ob), (.long (nw - bg))])) rfl rfl (hb hby d4_7)
  refine own_st st2 ?_
  show own_Go p e below _ (T2.setTop (mkF m 10 #[.val (.ref ob), .val (.long nw), .second] [(.long fc), (.long (nw - bg))]))
  refine own_st (V := T2.setTop (mkF m 12 #[.val (.ref ob), .val (.long nw), .second] [(.ref ob), (.long ((nw - bg) / fc))])) (fun tgt k => ?_) ?_
  · show Steps p.tables e below (T2.setTop (mkF m 10 #[.val (.ref ob), .val (.long nw), .second] [(.long fc), (.long (nw - bg))])) tgt
    refine XS.ldiv X2.here hx rfl (hb hby d4_10) rfl NZ ?_
    show Steps p.tables e below (T2.setTop (mkF m 11 #[.val (.ref ob), .val (.long nw), .second] [(.long ((nw - bg) / fc))])) tgt
    refine XS.aloadN X2.here hx rfl (hb hby d4_11) rfl rfl ?_
    exact k
  obtain ⟨T3, X3, e3, st3⟩ := getF X2 hx hZ hown (host := "") (Or.inl (hw _ (List.mem_of_getElem? (i := 19) rfl))) Via.refl e2 F3 (g := (mkF m 12 #[.val (.ref ob), .val (.long nw), .second] [(.ref ob), (.long ((nw - bg) / fc))])) rfl rfl (hb hby d4_12)
  refine own_st st3 ?_
  show own_Go p e below _ (T3.setTop (mkF m 15 #[.val (.ref ob), .val (.long nw), .second] [(.long tk), (.long ((nw - bg) / fc))]))
  refine own_st (V := T3.setTop (mkF m 16 #[.val (.ref ob), .val (.long nw), .second] [(.int (lcmpW ((nw - bg) / fc) tk))])) (fun tgt k => ?_) ?_
  · show Steps p.tables e below (T3.setTop (mkF m 15 #[.val (.ref ob), .val (.long nw), .second] [(.long tk), (.long ((nw - bg) / fc))])) tgt
    refine XS.lcmp X3.here hx rfl (hb hby d4_15) rfl ?_
    exact k
  by_cases hc16 : ((nw - bg) / fc) < tk
  · skip
    refine own_st (V := T3.setTop (mkF m 24 #[.val (.ref ob), .val (.long nw), .second] [(.int (0 : Int32))])) (fun tgt k => ?_) ?_
    · show Steps p.tables e below (T3.setTop (mkF m 16 #[.val (.ref ob), .val (.long nw), .second] [(.int (lcmpW ((nw - bg) / fc) tk))])) tgt
      refine XS.ifYes X3.here hx rfl (pc0 := 16) (pc' := 23) rfl (hb hby d4_16) rfl ((if0 _ _).trans (tlt ((lw_lt ((nw - bg) / fc) tk).mpr hc16)).1) (by decide) (by decide) ?_
      show Steps p.tables e below (T3.setTop (mkF m 23 #[.val (.ref ob), .val (.long nw), .second] [])) tgt
      refine XS.iconst X3.here hx rfl (hb hby d4_23) ?_
      exact k
    refine own_retN X3 hx hlk (t := .boolean) (z' := (0 : Int32)) Bd.returns (by simp) rfl (hb hby d4_24) ?_ (by decide) (by decide)
    show Q4 Z ob nw fc bg tk h0 n0 (some (.int (0 : Int32))) T3.heap _
    rw [e3]
    refine ⟨?_, N0, rfl⟩
    exact congrArg (fun q => some (Value.int q)) (by unfold own_A; rw [if_pos hc16])
  · skip
    refine own_st (V := T3.setTop (mkF m 24 #[.val (.ref ob), .val (.long nw), .second] [(.int (1 : Int32))])) (fun tgt k => ?_) ?_
    · show Steps p.tables e below (T3.setTop (mkF m 16 #[.val (.ref ob), .val (.long nw), .second] [(.int (lcmpW ((nw - bg) / fc) tk))])) tgt
      refine XS.ifNo X3.here hx rfl (hb hby d4_16) rfl ((if0 _ _).trans (flt (fun q => hc16 ((lw_lt ((nw - bg) / fc) tk).mp q))).1) ?_
      show Steps p.tables e below (T3.setTop (mkF m 19 #[.val (.ref ob), .val (.long nw), .second] [])) tgt
      refine XS.iconst X3.here hx rfl (hb hby d4_19) ?_
      show Steps p.tables e below (T3.setTop (mkF m 20 #[.val (.ref ob), .val (.long nw), .second] [(.int (1 : Int32))])) tgt
      refine XS.goto X3.here hx rfl (pc0 := 20) (pc' := 24) rfl (hb hby d4_20) (by decide) (by decide) ?_
      exact k
    refine own_retN X3 hx hlk (t := .boolean) (z' := (1 : Int32)) Bd.returns (by simp) rfl (hb hby d4_24) ?_ (by decide) (by decide)
    show Q4 Z ob nw fc bg tk h0 n0 (some (.int (1 : Int32))) T3.heap _
    rw [e3]
    refine ⟨?_, N0, rfl⟩
    exact congrArg (fun q => some (Value.int q)) (by unfold own_A; rw [if_neg hc16])
theorem d6_0 : decode jdk_29_method_66_code 0 = .ok (.lload_n 0, 1) := by decide +kernel
theorem d6_1 : decode jdk_29_method_66_code 1 = .ok (.lload_n 2, 1) := by decide +kernel
theorem d6_2 : decode jdk_29_method_66_code 2 = .ok (.lcmp, 1) := by decide +kernel
theorem d6_3 : decode jdk_29_method_66_code 3 = .ok (.ifCond .lt 7, 3) := by decide +kernel
theorem d6_6 : decode jdk_29_method_66_code 6 = .ok (.lload_n 0, 1) := by decide +kernel
theorem d6_7 : decode jdk_29_method_66_code 7 = .ok (.goto 4, 3) := by decide +kernel
theorem d6_10 : decode jdk_29_method_66_code 10 = .ok (.lload_n 2, 1) := by decide +kernel
theorem d6_11 : decode jdk_29_method_66_code 11 = .ok (.lreturn, 1) := by decide +kernel
theorem ef_6 (m : MethodId) (x0 : Int64) (x1 : Int64) : entryFrame m #[(.long x0), (.long x1)] 4 = mkF m 0 #[.val (.long x0), .second, .val (.long x1), .second] [] := by first | (simp [entryFrame, mkF, argsToLocals, Value.category]; done) | rfl
def Q6 (Z : State) (xa : Int64) (xb : Int64) (h0 : Heap) (n0 : Nat) (v : Option Value) (h : Heap) (L : List Loc) : Prop := v = some (.long (own_mx xa xb)) ∧ Fr n0 L ∧ h = h0
set_option maxRecDepth 65536 in
set_option maxHeartbeats 40000000 in
theorem rm6 (l : Launch) (Z : State) (a0 : Array Value) (hw : ∀ d ∈ tables_1, d.before a0 Z = true) (ws : List Jvm.Cond) (xa : Int64) (xb : Int64) (h0 : Heap) (n0 : Nat) (Z0 : n0 ≤ h0.size) :
    MetFree l (⟨"java/lang/Math", "max", "(JJ)J"⟩ : MethodName) (head1 (Jvm.Cond.code (⟨"java/lang/Math", "max", "(JJ)J"⟩ : MethodName) jdk_29_method_66_code 4 (some .long) :: ws) ({ frames := 0, cells := 0, slots := 0, locals := 0 } : Room)) (fun a U => a = #[(.long xa), (.long xb)] ∧ Z.Warmed39 U.vm ∧ U.heap = h0) (fun _ _ _ _ _ => True) (fun _ U o U' => ∃ v L, o = .returned v ∧ Q6 Z xa xb h0 n0 v U'.heap L ∧ FrameEnd U o U' L ({ frames := 0, cells := 0, slots := 0, locals := 0 } : Room).cells ({ frames := 0, cells := 0, slots := 0, locals := 0 } : Room).slots) := by
  refine MetFree.of_bodySF (Jvm.Free.JP.mathPlain rfl (by decide +kernel)) hisR ?_
  intro p e s m args below meth c s₁ Bd hml0 hP hK
  obtain ⟨rfl, hZ, hh⟩ := hP
  have hx := Bd.exec
  have hby := Bd.bytes
  have hlk : meth.locks = false := BodyLoose.notSynchronized Bd
  have hml : c.maxLocals = 4 := hml0
  have hown : s.vm.findClass "java/lang/Math" = some m.cls := findClass_of_methodNamed Bd.named
  have hnm := (name_of_methodNamed Bd.named Bd.method).1
  have X0 : Stand p l e ({ frames := 0, cells := 0, slots := 0, locals := 0 } : Room) s m #[(.long xa), (.long xb)] below meth c s₁ [] 0 0 := Stand.of_body Bd
  have e0 : s₁.heap = h0 := by rw [← hh, Bd.state]; rfl
  have N0 := Fr.nil n0
  show own_Go p e below (own_G s (Q6 Z xa xb h0 n0) ({ frames := 0, cells := 0, slots := 0, locals := 0 } : Room).cells ({ frames := 0, cells := 0, slots := 0, locals := 0 } : Room).slots) (s₁.setTop (entryFrame m #[(.long xa), (.long xb)] 4))
  refine own_st (fun tgt k => castTop (ef_6 m xa xb) k) ?_
  show own_Go p e below _ (s₁.setTop (mkF m 0 #[.val (.long xa), .second, .val (.long xb), .second] []))
  refine own_st (V := s₁.setTop (mkF m 3 #[.val (.long xa), .second, .val (.long xb), .second] [(.int (lcmpW xa xb))])) (fun tgt k => ?_) ?_
  · show Steps p.tables e below (s₁.setTop (mkF m 0 #[.val (.long xa), .second, .val (.long xb), .second] [])) tgt
    refine XS.lloadN X0.here hx rfl (hb hby d6_0) rfl ?_
    show Steps p.tables e below (s₁.setTop (mkF m 1 #[.val (.long xa), .second, .val (.long xb), .second] [(.long xa)])) tgt
    refine XS.lloadN X0.here hx rfl (hb hby d6_1) rfl ?_
    show Steps p.tables e below (s₁.setTop (mkF m 2 #[.val (.long xa), .second, .val (.long xb), .second] [(.long xb), (.long xa)])) tgt
    refine XS.lcmp X0.here hx rfl (hb hby d6_2) rfl ?_
    exact k
  by_cases hc3 : xa < xb
  · skip
    refine own_st (V := s₁.setTop (mkF m 11 #[.val (.long xa), .second, .val (.long xb), .second] [(.long xb)])) (fun tgt k => ?_) ?_
    · show Steps p.tables e below (s₁.setTop (mkF m 3 #[.val (.long xa), .second, .val (.long xb), .second] [(.int (lcmpW xa xb))])) tgt
      refine XS.ifYes X0.here hx rfl (pc0 := 3) (pc' := 10) rfl (hb hby d6_3) rfl ((if0 _ _).trans (tlt ((lw_lt xa xb).mpr hc3)).1) (by decide) (by decide) ?_
      show Steps p.tables e below (s₁.setTop (mkF m 10 #[.val (.long xa), .second, .val (.long xb), .second] [])) tgt
      refine XS.lloadN X0.here hx rfl (hb hby d6_10) rfl ?_
      exact k
    refine own_retJ X0 hx hlk Bd.returns (hb hby d6_11) ?_ (by decide) (by decide)
    show Q6 Z xa xb h0 n0 (some (.long xb)) s₁.heap _
    rw [e0]
    refine ⟨?_, N0, rfl⟩
    exact congrArg (fun q => some (Value.long q)) (by unfold own_mx; rw [if_pos hc3])
  · skip
    refine own_st (V := s₁.setTop (mkF m 11 #[.val (.long xa), .second, .val (.long xb), .second] [(.long xa)])) (fun tgt k => ?_) ?_
    · show Steps p.tables e below (s₁.setTop (mkF m 3 #[.val (.long xa), .second, .val (.long xb), .second] [(.int (lcmpW xa xb))])) tgt
      refine XS.ifNo X0.here hx rfl (hb hby d6_3) rfl ((if0 _ _).trans (flt (fun q => hc3 ((lw_lt xa xb).mp q))).1) ?_
      show Steps p.tables e below (s₁.setTop (mkF m 6 #[.val (.long xa), .second, .val (.long xb), .second] [])) tgt
      refine XS.lloadN X0.here hx rfl (hb hby d6_6) rfl ?_
      show Steps p.tables e below (s₁.setTop (mkF m 7 #[.val (.long xa), .second, .val (.long xb), .second] [(.long xa)])) tgt
      refine XS.goto X0.here hx rfl (pc0 := 7) (pc' := 11) rfl (hb hby d6_7) (by decide) (by decide) ?_
      exact k
    refine own_retJ X0 hx hlk Bd.returns (hb hby d6_11) ?_ (by decide) (by decide)
    show Q6 Z xa xb h0 n0 (some (.long xa)) s₁.heap _
    rw [e0]
    refine ⟨?_, N0, rfl⟩
    exact congrArg (fun q => some (Value.long q)) (by unfold own_mx; rw [if_neg hc3])
theorem d5_0 : decode method_3_code 0 = .ok (.lload_n 2, 1) := by decide +kernel
theorem d5_1 : decode method_3_code 1 = .ok (.lconst 0, 1) := by decide +kernel
theorem d5_2 : decode method_3_code 2 = .ok (.lcmp, 1) := by decide +kernel
theorem d5_3 : decode method_3_code 3 = .ok (.ifCond .ne 5, 3) := by decide +kernel
theorem d5_6 : decode method_3_code 6 = .ok (.iconst 1, 1) := by decide +kernel
theorem d5_7 : decode method_3_code 7 = .ok (.ireturn, 1) := by decide +kernel
theorem d5_8 : decode method_3_code 8 = .ok (.lload_n 0, 1) := by decide +kernel
theorem d5_9 : decode method_3_code 9 = .ok (.ldc2_w 21, 3) := by decide +kernel
theorem d5_12 : decode method_3_code 12 = .ok (.lload_n 2, 1) := by decide +kernel
theorem d5_13 : decode method_3_code 13 = .ok (.ldiv, 1) := by decide +kernel
theorem d5_14 : decode method_3_code 14 = .ok (.lcmp, 1) := by decide +kernel
theorem d5_15 : decode method_3_code 15 = .ok (.ifCond .le 5, 3) := by decide +kernel
theorem d5_18 : decode method_3_code 18 = .ok (.iconst 0, 1) := by decide +kernel
theorem d5_19 : decode method_3_code 19 = .ok (.ireturn, 1) := by decide +kernel
theorem d5_20 : decode method_3_code 20 = .ok (.lload 4, 2) := by decide +kernel
theorem d5_22 : decode method_3_code 22 = .ok (.lload_n 2, 1) := by decide +kernel
theorem d5_23 : decode method_3_code 23 = .ok (.lload_n 0, 1) := by decide +kernel
theorem d5_24 : decode method_3_code 24 = .ok (.lmul, 1) := by decide +kernel
theorem d5_25 : decode method_3_code 25 = .ok (.lcmp, 1) := by decide +kernel
theorem d5_26 : decode method_3_code 26 = .ok (.ifCond .lt 7, 3) := by decide +kernel
theorem d5_29 : decode method_3_code 29 = .ok (.iconst 1, 1) := by decide +kernel
theorem d5_30 : decode method_3_code 30 = .ok (.goto 4, 3) := by decide +kernel
theorem d5_33 : decode method_3_code 33 = .ok (.iconst 0, 1) := by decide +kernel
theorem d5_34 : decode method_3_code 34 = .ok (.ireturn, 1) := by decide +kernel
theorem pn_5 : plainName "com/example/headwater/headwater/connectors/ListingPaceAllowsPinLaw" = true := by first | (simp [plainName, overriddenIn]; done) | decide +kernel
theorem ef_5 (m : MethodId) (x0 : Int64) (x1 : Int64) (x2 : Int64) : entryFrame m #[(.long x0), (.long x1), (.long x2)] 6 = mkF m 0 #[.val (.long x0), .second, .val (.long x1), .second, .val (.long x2), .second] [] := by first | (simp [entryFrame, mkF, argsToLocals, Value.category]; done) | rfl
def Q5 (Z : State) (fa : Int64) (ta : Int64) (ea : Int64) (h0 : Heap) (n0 : Nat) (v : Option Value) (h : Heap) (L : List Loc) : Prop := v = some (.int (own_E fa ta ea)) ∧ Fr n0 L ∧ h = h0
set_option maxRecDepth 65536 in
set_option maxHeartbeats 40000000 in
theorem rm5 (l : Launch) (Z : State) (a0 : Array Value) (hw : ∀ d ∈ tables_1, d.before a0 Z = true) (ws : List Jvm.Cond) (fa : Int64) (ta : Int64) (ea : Int64) (h0 : Heap) (n0 : Nat) (Z0 : n0 ≤ h0.size) :
    MetFree l (⟨"com/example/headwater/headwater/connectors/ListingPaceAllowsPinLaw", "expected", "(JJJ)Z"⟩ : MethodName) (head1 (Jvm.Cond.code (⟨"com/example/headwater/headwater/connectors/ListingPaceAllowsPinLaw", "expected", "(JJJ)Z"⟩ : MethodName) method_3_code 6 (some .boolean) :: ws) ({ frames := 0, cells := 0, slots := 0, locals := 0 } : Room)) (fun a U => a = #[(.long fa), (.long ta), (.long ea)] ∧ Z.Warmed39 U.vm ∧ U.heap = h0) (fun _ _ _ _ _ => True) (fun _ U o U' => ∃ v L, o = .returned v ∧ Q5 Z fa ta ea h0 n0 v U'.heap L ∧ FrameEnd U o U' L ({ frames := 0, cells := 0, slots := 0, locals := 0 } : Room).cells ({ frames := 0, cells := 0, slots := 0, locals := 0 } : Room).slots) := by
  refine MetFree.of_bodySF (plainFor_of_name pn_5) hisR ?_
  intro p e s m args below meth c s₁ Bd hml0 hP hK
  obtain ⟨rfl, hZ, hh⟩ := hP
  have hx := Bd.exec
  have hby := Bd.bytes
  have hlk : meth.locks = false := BodyLoose.notSynchronized Bd
  have hml : c.maxLocals = 6 := hml0
  have hown : s.vm.findClass "com/example/headwater/headwater/connectors/ListingPaceAllowsPinLaw" = some m.cls := findClass_of_methodNamed Bd.named
  have hnm := (name_of_methodNamed Bd.named Bd.method).1
  have X0 : Stand p l e ({ frames := 0, cells := 0, slots := 0, locals := 0 } : Room) s m #[(.long fa), (.long ta), (.long ea)] below meth c s₁ [] 0 0 := Stand.of_body Bd
  have e0 : s₁.heap = h0 := by rw [← hh, Bd.state]; rfl
  have N0 := Fr.nil n0
  show own_Go p e below (own_G s (Q5 Z fa ta ea h0 n0) ({ frames := 0, cells := 0, slots := 0, locals := 0 } : Room).cells ({ frames := 0, cells := 0, slots := 0, locals := 0 } : Room).slots) (s₁.setTop (entryFrame m #[(.long fa), (.long ta), (.long ea)] 6))
  refine own_st (fun tgt k => castTop (ef_5 m fa ta ea) k) ?_
  show own_Go p e below _ (s₁.setTop (mkF m 0 #[.val (.long fa), .second, .val (.long ta), .second, .val (.long ea), .second] []))
  refine own_st (V := s₁.setTop (mkF m 3 #[.val (.long fa), .second, .val (.long ta), .second, .val (.long ea), .second] [(.int (lcmpW ta (0 : Int64)))])) (fun tgt k => ?_) ?_
  · show Steps p.tables e below (s₁.setTop (mkF m 0 #[.val (.long fa), .second, .val (.long ta), .second, .val (.long ea), .second] [])) tgt
    refine XS.lloadN X0.here hx rfl (hb hby d5_0) rfl ?_
    show Steps p.tables e below (s₁.setTop (mkF m 1 #[.val (.long fa), .second, .val (.long ta), .second, .val (.long ea), .second] [(.long ta)])) tgt
    refine XS.lconst X0.here hx rfl (hb hby d5_1) ?_
    show Steps p.tables e below (s₁.setTop (mkF m 2 #[.val (.long fa), .second, .val (.long ta), .second, .val (.long ea), .second] [(.long (0 : Int64)), (.long ta)])) tgt
    refine XS.lcmp X0.here hx rfl (hb hby d5_2) rfl ?_
    exact k
  by_cases hc3 : ta = (0 : Int64)
  · skip
    refine own_st (V := s₁.setTop (mkF m 7 #[.val (.long fa), .second, .val (.long ta), .second, .val (.long ea), .second] [(.int (1 : Int32))])) (fun tgt k => ?_) ?_
    · show Steps p.tables e below (s₁.setTop (mkF m 3 #[.val (.long fa), .second, .val (.long ta), .second, .val (.long ea), .second] [(.int (lcmpW ta (0 : Int64)))])) tgt
      refine XS.ifNo X0.here hx rfl (hb hby d5_3) rfl ((if0 _ _).trans (teq ((lw_eq ta (0 : Int64)).mpr hc3)).2) ?_
      show Steps p.tables e below (s₁.setTop (mkF m 6 #[.val (.long fa), .second, .val (.long ta), .second, .val (.long ea), .second] [])) tgt
      refine XS.iconst X0.here hx rfl (hb hby d5_6) ?_
      exact k
    refine own_retN X0 hx hlk (t := .boolean) (z' := (1 : Int32)) Bd.returns (by simp) rfl (hb hby d5_7) ?_ (by decide) (by decide)
    show Q5 Z fa ta ea h0 n0 (some (.int (1 : Int32))) s₁.heap _
    rw [e0]
    refine ⟨?_, N0, rfl⟩
    exact congrArg (fun q => some (Value.int q)) (by unfold own_E; rw [if_pos hc3])
  · skip
    refine own_st (V := s₁.setTop (mkF m 15 #[.val (.long fa), .second, .val (.long ta), .second, .val (.long ea), .second] [(.int (lcmpW fa ((9223372036854775807 : Int64) / ta)))])) (fun tgt k => ?_) ?_
    · show Steps p.tables e below (s₁.setTop (mkF m 3 #[.val (.long fa), .second, .val (.long ta), .second, .val (.long ea), .second] [(.int (lcmpW ta (0 : Int64)))])) tgt
      refine XS.ifYes X0.here hx rfl (pc0 := 3) (pc' := 8) rfl (hb hby d5_3) rfl ((if0 _ _).trans (feq (fun q => hc3 ((lw_eq ta (0 : Int64)).mp q))).2) (by decide) (by decide) ?_
      show Steps p.tables e below (s₁.setTop (mkF m 8 #[.val (.long fa), .second, .val (.long ta), .second, .val (.long ea), .second] [])) tgt
      refine XS.lloadN X0.here hx rfl (hb hby d5_8) rfl ?_
      show Steps p.tables e below (s₁.setTop (mkF m 9 #[.val (.long fa), .second, .val (.long ta), .second, .val (.long ea), .second] [(.long fa)])) tgt
      refine X0.ldc2Long hx hown (mvT hZ (hw _ (List.mem_of_getElem? (i := 0) rfl))) (g := (mkF m 9 #[.val (.long fa), .second, .val (.long ta), .second, .val (.long ea), .second] [(.long fa)])) rfl (hb hby d5_9) _ ?_
      show Steps p.tables e below (s₁.setTop (mkF m 12 #[.val (.long fa), .second, .val (.long ta), .second, .val (.long ea), .second] [(.long (9223372036854775807 : Int64)), (.long fa)])) tgt
      refine XS.lloadN X0.here hx rfl (hb hby d5_12) rfl ?_
      show Steps p.tables e below (s₁.setTop (mkF m 13 #[.val (.long fa), .second, .val (.long ta), .second, .val (.long ea), .second] [(.long ta), (.long (9223372036854775807 : Int64)), (.long fa)])) tgt
      refine XS.ldiv X0.here hx rfl (hb hby d5_13) rfl hc3 ?_
      show Steps p.tables e below (s₁.setTop (mkF m 14 #[.val (.long fa), .second, .val (.long ta), .second, .val (.long ea), .second] [(.long ((9223372036854775807 : Int64) / ta)), (.long fa)])) tgt
      refine XS.lcmp X0.here hx rfl (hb hby d5_14) rfl ?_
      exact k
    by_cases hc15 : ((9223372036854775807 : Int64) / ta) < fa
    · skip
      refine own_st (V := s₁.setTop (mkF m 19 #[.val (.long fa), .second, .val (.long ta), .second, .val (.long ea), .second] [(.int (0 : Int32))])) (fun tgt k => ?_) ?_
      · show Steps p.tables e below (s₁.setTop (mkF m 15 #[.val (.long fa), .second, .val (.long ta), .second, .val (.long ea), .second] [(.int (lcmpW fa ((9223372036854775807 : Int64) / ta)))])) tgt
        refine XS.ifNo X0.here hx rfl (hb hby d5_15) rfl ((if0 _ _).trans (tlt ((lw_gt fa ((9223372036854775807 : Int64) / ta)).mpr hc15)).2.2.2) ?_
        show Steps p.tables e below (s₁.setTop (mkF m 18 #[.val (.long fa), .second, .val (.long ta), .second, .val (.long ea), .second] [])) tgt
        refine XS.iconst X0.here hx rfl (hb hby d5_18) ?_
        exact k
      refine own_retN X0 hx hlk (t := .boolean) (z' := (0 : Int32)) Bd.returns (by simp) rfl (hb hby d5_19) ?_ (by decide) (by decide)
      show Q5 Z fa ta ea h0 n0 (some (.int (0 : Int32))) s₁.heap _
      rw [e0]
      refine ⟨?_, N0, rfl⟩
      exact congrArg (fun q => some (Value.int q)) (by unfold own_E; rw [if_neg hc3, if_pos hc15])
    · skip
      refine own_st (V := s₁.setTop (mkF m 26 #[.val (.long fa), .second, .val (.long ta), .second, .val (.long ea), .second] [(.int (lcmpW ea (ta * fa)))])) (fun tgt k => ?_) ?_
      · show Steps p.tables e below (s₁.setTop (mkF m 15 #[.val (.long fa), .second, .val (.long ta), .second, .val (.long ea), .second] [(.int (lcmpW fa ((9223372036854775807 : Int64) / ta)))])) tgt
        refine XS.ifYes X0.here hx rfl (pc0 := 15) (pc' := 20) rfl (hb hby d5_15) rfl ((if0 _ _).trans (flt (fun q => hc15 ((lw_gt fa ((9223372036854775807 : Int64) / ta)).mp q))).2.2.2) (by decide) (by decide) ?_
        show Steps p.tables e below (s₁.setTop (mkF m 20 #[.val (.long fa), .second, .val (.long ta), .second, .val (.long ea), .second] [])) tgt
        refine XS.lload X0.here hx rfl (hb hby d5_20) rfl ?_
        show Steps p.tables e below (s₁.setTop (mkF m 22 #[.val (.long fa), .second, .val (.long ta), .second, .val (.long ea), .second] [(.long ea)])) tgt
        refine XS.lloadN X0.here hx rfl (hb hby d5_22) rfl ?_
        show Steps p.tables e below (s₁.setTop (mkF m 23 #[.val (.long fa), .second, .val (.long ta), .second, .val (.long ea), .second] [(.long ta), (.long ea)])) tgt
        refine XS.lloadN X0.here hx rfl (hb hby d5_23) rfl ?_
        show Steps p.tables e below (s₁.setTop (mkF m 24 #[.val (.long fa), .second, .val (.long ta), .second, .val (.long ea), .second] [(.long fa), (.long ta), (.long ea)])) tgt
        refine XS.lmul X0.here hx rfl (hb hby d5_24) rfl ?_
        show Steps p.tables e below (s₁.setTop (mkF m 25 #[.val (.long fa), .second, .val (.long ta), .second, .val (.long ea), .second] [(.long (ta * fa)), (.long ea)])) tgt
        refine XS.lcmp X0.here hx rfl (hb hby d5_25) rfl ?_
        exact k
      by_cases hc26 : ea < (ta * fa)
      · skip
        refine own_st (V := s₁.setTop (mkF m 34 #[.val (.long fa), .second, .val (.long ta), .second, .val (.long ea), .second] [(.int (0 : Int32))])) (fun tgt k => ?_) ?_
        · show Steps p.tables e below (s₁.setTop (mkF m 26 #[.val (.long fa), .second, .val (.long ta), .second, .val (.long ea), .second] [(.int (lcmpW ea (ta * fa)))])) tgt
          refine XS.ifYes X0.here hx rfl (pc0 := 26) (pc' := 33) rfl (hb hby d5_26) rfl ((if0 _ _).trans (tlt ((lw_lt ea (ta * fa)).mpr hc26)).1) (by decide) (by decide) ?_
          show Steps p.tables e below (s₁.setTop (mkF m 33 #[.val (.long fa), .second, .val (.long ta), .second, .val (.long ea), .second] [])) tgt
          refine XS.iconst X0.here hx rfl (hb hby d5_33) ?_
          exact k
        refine own_retN X0 hx hlk (t := .boolean) (z' := (0 : Int32)) Bd.returns (by simp) rfl (hb hby d5_34) ?_ (by decide) (by decide)
        show Q5 Z fa ta ea h0 n0 (some (.int (0 : Int32))) s₁.heap _
        rw [e0]
        refine ⟨?_, N0, rfl⟩
        exact congrArg (fun q => some (Value.int q)) (by unfold own_E; rw [if_neg hc3, if_neg hc15, if_pos hc26])
      · skip
        refine own_st (V := s₁.setTop (mkF m 34 #[.val (.long fa), .second, .val (.long ta), .second, .val (.long ea), .second] [(.int (1 : Int32))])) (fun tgt k => ?_) ?_
        · show Steps p.tables e below (s₁.setTop (mkF m 26 #[.val (.long fa), .second, .val (.long ta), .second, .val (.long ea), .second] [(.int (lcmpW ea (ta * fa)))])) tgt
          refine XS.ifNo X0.here hx rfl (hb hby d5_26) rfl ((if0 _ _).trans (flt (fun q => hc26 ((lw_lt ea (ta * fa)).mp q))).1) ?_
          show Steps p.tables e below (s₁.setTop (mkF m 29 #[.val (.long fa), .second, .val (.long ta), .second, .val (.long ea), .second] [])) tgt
          refine XS.iconst X0.here hx rfl (hb hby d5_29) ?_
          show Steps p.tables e below (s₁.setTop (mkF m 30 #[.val (.long fa), .second, .val (.long ta), .second, .val (.long ea), .second] [(.int (1 : Int32))])) tgt
          refine XS.goto X0.here hx rfl (pc0 := 30) (pc' := 34) rfl (hb hby d5_30) (by decide) (by decide) ?_
          exact k
        refine own_retN X0 hx hlk (t := .boolean) (z' := (1 : Int32)) Bd.returns (by simp) rfl (hb hby d5_34) ?_ (by decide) (by decide)
        show Q5 Z fa ta ea h0 n0 (some (.int (1 : Int32))) s₁.heap _
        rw [e0]
        refine ⟨?_, N0, rfl⟩
        exact congrArg (fun q => some (Value.int q)) (by unfold own_E; rw [if_neg hc3, if_neg hc15, if_neg hc26])
theorem pn_0 : plainName "com/example/headwater/headwater/connectors/ListingPaceAllowsPinLaw" = true := by first | (simp [plainName, overriddenIn]; done) | decide +kernel
theorem pd_0_0 : parseMethodDescriptor "(JJ)J" = some ⟨[.long, .long], some .long⟩ := by decide +kernel
theorem pd_0_1 : parseMethodDescriptor "(JJ)V" = some ⟨[.long, .long], none⟩ := by decide +kernel
theorem pd_0_2 : parseMethodDescriptor "(J)V" = some ⟨[.long], none⟩ := by decide +kernel
theorem pd_0_3 : parseMethodDescriptor "(J)Z" = some ⟨[.long], some .boolean⟩ := by decide +kernel
theorem pd_0_4 : parseMethodDescriptor "(JJJ)Z" = some ⟨[.long, .long, .long], some .boolean⟩ := by decide +kernel
theorem ef_0 (m : MethodId) (x0 : Int64) (x1 : Int64) (x2 : Int64) (x3 : Int64) (x4 : Int64) (x5 : Int32) : entryFrame m #[(.long x0), (.long x1), (.long x2), (.long x3), (.long x4), (.int x5)] maxLocals = mkF m 0 #[.val (.long x0), .second, .val (.long x1), .second, .val (.long x2), .second, .val (.long x3), .second, .val (.long x4), .second, .val (.int x5), .unset, .unset, .unset, .unset, .unset, .unset, .unset, .unset, .unset, .unset, .unset] [] := by first | (simp [entryFrame, mkF, argsToLocals, Value.category, maxLocals]; done) | rfl
def Q0 (Z : State) (fr : Int64) (a1 : Int64) (tr : Int64) (b1 : Int64) (er : Int64) (fg : Int32) (h0 : Heap) (n0 : Nat) (v : Option Value) (h : Heap) (L : List Loc) : Prop := v = some (.int (1 : Int32)) ∧ Fr n0 L
set_option maxRecDepth 65536 in
set_option maxHeartbeats 40000000 in
theorem rm0 (l : Launch) (Z : State) (a0 : Array Value) (hw : ∀ d ∈ tables_1, d.before a0 Z = true) (ws : List Jvm.Cond) (fr : Int64) (a1 : Int64) (tr : Int64) (b1 : Int64) (er : Int64) (fg : Int32) (h0 : Heap) (n0 : Nat) (Z0 : n0 ≤ h0.size) :
    MetFree l x (head1 (Jvm.Cond.code x code maxLocals ret :: ws) room_1) (fun a U => a = #[(.long fr), (.long a1), (.long tr), (.long b1), (.long er), (.int fg)] ∧ Z.Warmed39 U.vm ∧ U.heap = h0) (fun _ _ _ _ _ => True) (fun _ U o U' => ∃ v L, o = .returned v ∧ Q0 Z fr a1 tr b1 er fg h0 n0 v U'.heap L ∧ FrameEnd U o U' L 16 128) := by
  refine MetFree.of_bodySF (plainFor_of_name pn_0) hisR ?_
  intro p e s m args below meth c s₁ Bd hml0 hP hK
  obtain ⟨rfl, hZ, hh⟩ := hP
  have hx := Bd.exec
  have hby := Bd.bytes
  have hlk : meth.locks = false := BodyLoose.notSynchronized Bd
  have hml : c.maxLocals = 22 := hml0
  have hown : s.vm.findClass "com/example/headwater/headwater/connectors/ListingPaceAllowsPinLaw" = some m.cls := findClass_of_methodNamed Bd.named
  have hnm := (name_of_methodNamed Bd.named Bd.method).1
  have X0 : Stand p l e room_1 s m #[(.long fr), (.long a1), (.long tr), (.long b1), (.long er), (.int fg)] below meth c s₁ [] 0 0 := Stand.of_body Bd
  have e0 : s₁.heap = h0 := by rw [← hh, Bd.state]; rfl
  have N0 := Fr.nil n0
  show own_Go p e below (own_G s (Q0 Z fr a1 tr b1 er fg h0 n0) 16 128) (s₁.setTop (entryFrame m #[(.long fr), (.long a1), (.long tr), (.long b1), (.long er), (.int fg)] maxLocals))
  refine own_st (fun tgt k => castTop (ef_0 m fr a1 tr b1 er fg) k) ?_
  show own_Go p e below _ (s₁.setTop (mkF m 0 #[.val (.long fr), .second, .val (.long a1), .second, .val (.long tr), .second, .val (.long b1), .second, .val (.long er), .second, .val (.int fg), .unset, .unset, .unset, .unset, .unset, .unset, .unset, .unset, .unset, .unset, .unset] []))
  refine own_st (V := s₁.setTop (mkF m 4 #[.val (.long fr), .second, .val (.long a1), .second, .val (.long tr), .second, .val (.long b1), .second, .val (.long er), .second, .val (.int fg), .unset, .unset, .unset, .unset, .unset, .unset, .unset, .unset, .unset, .unset, .unset] [(.int (fg &&& (4 : Int32)))])) (fun tgt k => ?_) ?_
  · show Steps p.tables e below (s₁.setTop (mkF m 0 #[.val (.long fr), .second, .val (.long a1), .second, .val (.long tr), .second, .val (.long b1), .second, .val (.long er), .second, .val (.int fg), .unset, .unset, .unset, .unset, .unset, .unset, .unset, .unset, .unset, .unset, .unset] [])) tgt
    refine XS.iload X0.here hx rfl (hb hby at_0) rfl ?_
    show Steps p.tables e below (s₁.setTop (mkF m 2 #[.val (.long fr), .second, .val (.long a1), .second, .val (.long tr), .second, .val (.long b1), .second, .val (.long er), .second, .val (.int fg), .unset, .unset, .unset, .unset, .unset, .unset, .unset, .unset, .unset, .unset, .unset] [(.int fg)])) tgt
    refine XS.iconst X0.here hx rfl (hb hby at_2) ?_
    show Steps p.tables e below (s₁.setTop (mkF m 3 #[.val (.long fr), .second, .val (.long a1), .second, .val (.long tr), .second, .val (.long b1), .second, .val (.long er), .second, .val (.int fg), .unset, .unset, .unset, .unset, .unset, .unset, .unset, .unset, .unset, .unset, .unset] [(.int (4 : Int32)), (.int fg)])) tgt
    refine XS.iand X0.here hx rfl (hb hby at_3) rfl ?_
    exact k
  by_cases hc4 : (fg &&& (4 : Int32)) = (0 : Int32)
  · skip
    refine own_st (V := s₁.setTop (mkF m 57 #[.val (.long fr), .second, .val (.long a1), .second, .val (.long tr), .second, .val (.long b1), .second, .val (.long er), .second, .val (.int fg), .unset, .unset, .unset, .unset, .unset, .unset, .unset, .unset, .unset, .unset, .unset] [(.int (fg &&& (2 : Int32)))])) (fun tgt k => ?_) ?_
    · show Steps p.tables e below (s₁.setTop (mkF m 4 #[.val (.long fr), .second, .val (.long a1), .second, .val (.long tr), .second, .val (.long b1), .second, .val (.long er), .second, .val (.int fg), .unset, .unset, .unset, .unset, .unset, .unset, .unset, .unset, .unset, .unset, .unset] [(.int (fg &&& (4 : Int32)))])) tgt
      refine XS.ifYes X0.here hx rfl (pc0 := 4) (pc' := 53) rfl (hb hby at_4) rfl ((if0 _ _).trans (teq hc4).1) (by decide) (by decide) ?_
      show Steps p.tables e below (s₁.setTop (mkF m 53 #[.val (.long fr), .second, .val (.long a1), .second, .val (.long tr), .second, .val (.long b1), .second, .val (.long er), .second, .val (.int fg), .unset, .unset, .unset, .unset, .unset, .unset, .unset, .unset, .unset, .unset, .unset] [])) tgt
      refine XS.iload X0.here hx rfl (hb hby at_53) rfl ?_
      show Steps p.tables e below (s₁.setTop (mkF m 55 #[.val (.long fr), .second, .val (.long a1), .second, .val (.long tr), .second, .val (.long b1), .second, .val (.long er), .second, .val (.int fg), .unset, .unset, .unset, .unset, .unset, .unset, .unset, .unset, .unset, .unset, .unset] [(.int fg)])) tgt
      refine XS.iconst X0.here hx rfl (hb hby at_55) ?_
      show Steps p.tables e below (s₁.setTop (mkF m 56 #[.val (.long fr), .second, .val (.long a1), .second, .val (.long tr), .second, .val (.long b1), .second, .val (.long er), .second, .val (.int fg), .unset, .unset, .unset, .unset, .unset, .unset, .unset, .unset, .unset, .unset, .unset] [(.int (2 : Int32)), (.int fg)])) tgt
      refine XS.iand X0.here hx rfl (hb hby at_56) rfl ?_
      exact k
    by_cases hc57 : (fg &&& (2 : Int32)) = (0 : Int32)
    · skip
      refine own_st (V := s₁.setTop (mkF m 74 #[.val (.long fr), .second, .val (.long a1), .second, .val (.long tr), .second, .val (.long b1), .second, .val (.long er), .second, .val (.int fg), .unset, .unset, .unset, .unset, .unset, .unset, .unset, .unset, .unset, .unset, .unset] [(.long (fr &&& (9223372036854775807 : Int64))), (.long (1 : Int64))])) (fun tgt k => ?_) ?_
      · show Steps p.tables e below (s₁.setTop (mkF m 57 #[.val (.long fr), .second, .val (.long a1), .second, .val (.long tr), .second, .val (.long b1), .second, .val (.long er), .second, .val (.int fg), .unset, .unset, .unset, .unset, .unset, .unset, .unset, .unset, .unset, .unset, .unset] [(.int (fg &&& (2 : Int32)))])) tgt
        refine XS.ifYes X0.here hx rfl (pc0 := 57) (pc' := 68) rfl (hb hby at_57) rfl ((if0 _ _).trans (teq hc57).1) (by decide) (by decide) ?_
        show Steps p.tables e below (s₁.setTop (mkF m 68 #[.val (.long fr), .second, .val (.long a1), .second, .val (.long tr), .second, .val (.long b1), .second, .val (.long er), .second, .val (.int fg), .unset, .unset, .unset, .unset, .unset, .unset, .unset, .unset, .unset, .unset, .unset] [])) tgt
        refine XS.lconst X0.here hx rfl (hb hby at_68) ?_
        show Steps p.tables e below (s₁.setTop (mkF m 69 #[.val (.long fr), .second, .val (.long a1), .second, .val (.long tr), .second, .val (.long b1), .second, .val (.long er), .second, .val (.int fg), .unset, .unset, .unset, .unset, .unset, .unset, .unset, .unset, .unset, .unset, .unset] [(.long (1 : Int64))])) tgt
        refine XS.lloadN X0.here hx rfl (hb hby at_69) rfl ?_
        show Steps p.tables e below (s₁.setTop (mkF m 70 #[.val (.long fr), .second, .val (.long a1), .second, .val (.long tr), .second, .val (.long b1), .second, .val (.long er), .second, .val (.int fg), .unset, .unset, .unset, .unset, .unset, .unset, .unset, .unset, .unset, .unset, .unset] [(.long fr), (.long (1 : Int64))])) tgt
        refine X0.ldc2Long hx hown (mvT hZ (hw _ (List.mem_of_getElem? (i := 0) rfl))) (g := (mkF m 70 #[.val (.long fr), .second, .val (.long a1), .second, .val (.long tr), .second, .val (.long b1), .second, .val (.long er), .second, .val (.int fg), .unset, .unset, .unset, .unset, .unset, .unset, .unset, .unset, .unset, .unset, .unset] [(.long fr), (.long (1 : Int64))])) rfl (hb hby at_70) _ ?_
        show Steps p.tables e below (s₁.setTop (mkF m 73 #[.val (.long fr), .second, .val (.long a1), .second, .val (.long tr), .second, .val (.long b1), .second, .val (.long er), .second, .val (.int fg), .unset, .unset, .unset, .unset, .unset, .unset, .unset, .unset, .unset, .unset, .unset] [(.long (9223372036854775807 : Int64)), (.long fr), (.long (1 : Int64))])) tgt
        refine XS.land X0.here hx rfl (hb hby at_73) rfl ?_
        exact k
      obtain ⟨_, _, ⟨T1, L1, k1, n1⟩, -, X1, ⟨Lc1, hQ1, l1, y1, z1⟩, st1⟩ := Jvm.LawKit.callS X0 hx (y := (⟨"java/lang/Math", "max", "(JJ)J"⟩ : MethodName)) hown (mvT hZ (hw _ (List.mem_of_getElem? (i := 33) rfl))) (mvT hZ (hw _ (List.mem_of_getElem? (i := 34) rfl))) (mvT hZ (hw _ (List.mem_of_getElem? (i := 35) rfl))) (mvT hZ (hw _ (List.mem_of_getElem? (i := 36) rfl))) (by decide) (backOf (W := 0) (rm6 l Z a0 hw [] (1 : Int64) (fr &&& (9223372036854775807 : Int64)) h0 n0 Z0 ) hZ (hw _ (List.mem_of_getElem? (i := 36) rfl)) (hw _ (List.mem_of_getElem? (i := 35) rfl)) (by decide) (by decide)) (g := (mkF m 74 #[.val (.long fr), .second, .val (.long a1), .second, .val (.long tr), .second, .val (.long b1), .second, .val (.long er), .second, .val (.int fg), .unset, .unset, .unset, .unset, .unset, .unset, .unset, .unset, .unset, .unset, .unset] [(.long (fr &&& (9223372036854775807 : Int64))), (.long (1 : Int64))])) rfl (by rw [hml]; rfl) (argsL := [(.long (1 : Int64)), (.long (fr &&& (9223372036854775807 : Int64)))]) (rest := []) (lenOf pd_0_0 rfl) rfl (by show 2 * 0 + _ ≤ _; exact Nat.le_of_eq rfl) (hb hby at_74) (fun _ _ => ⟨rfl, e0, (by decide : 0 + 0 ≤ _), (by decide : 0 + 0 ≤ _)⟩)
      dsimp only [Pt.U, Pt.locs, Pt.cells, Pt.slots] at X1 l1 y1 z1 st1 hQ1
      subst l1 y1 z1
      obtain ⟨rfl, N1q, K1⟩ := hQ1
      have N1 := Fr.app N0 N1q
      refine own_st st1 ?_
      show own_Go p e below _ (T1.setTop (mkF m 77 #[.val (.long fr), .second, .val (.long a1), .second, .val (.long tr), .second, .val (.long b1), .second, .val (.long er), .second, .val (.int fg), .unset, .unset, .unset, .unset, .unset, .unset, .unset, .unset, .unset, .unset, .unset] [(.long (own_mx (1 : Int64) (fr &&& (9223372036854775807 : Int64))))]))
      refine own_st (V := T1.setTop (mkF m 79 #[.val (.long fr), .second, .val (.long a1), .second, .val (.long tr), .second, .val (.long b1), .second, .val (.long er), .second, .val (.int fg), .val (.long (own_mx (1 : Int64) (fr &&& (9223372036854775807 : Int64)))), .second, .unset, .unset, .unset, .unset, .unset, .unset, .unset, .unset, .unset] [])) (fun tgt k => ?_) ?_
      · show Steps p.tables e below (T1.setTop (mkF m 77 #[.val (.long fr), .second, .val (.long a1), .second, .val (.long tr), .second, .val (.long b1), .second, .val (.long er), .second, .val (.int fg), .unset, .unset, .unset, .unset, .unset, .unset, .unset, .unset, .unset, .unset, .unset] [(.long (own_mx (1 : Int64) (fr &&& (9223372036854775807 : Int64))))])) tgt
        refine XS.lstore X1.here hx rfl (hb hby at_77) rfl (l' := #[.val (.long fr), .second, .val (.long a1), .second, .val (.long tr), .second, .val (.long b1), .second, .val (.long er), .second, .val (.int fg), .val (.long (own_mx (1 : Int64) (fr &&& (9223372036854775807 : Int64)))), .second, .unset, .unset, .unset, .unset, .unset, .unset, .unset, .unset, .unset]) rfl ?_
        exact k
      obtain ⟨fv, hfv⟩ : ∃ z : Int64, z = (own_mx (1 : Int64) (fr &&& (9223372036854775807 : Int64))) := ⟨_, rfl⟩
      rw [← hfv]
      have hf1 : 1 ≤ fv.toInt := by rw [hfv]; exact own_mx1 _
      refine own_st (V := T1.setTop (mkF m 87 #[.val (.long fr), .second, .val (.long a1), .second, .val (.long tr), .second, .val (.long b1), .second, .val (.long er), .second, .val (.int fg), .val (.long fv), .second, .val (.long (tr &&& (9223372036854775807 : Int64))), .second, .unset, .unset, .unset, .unset, .unset, .unset, .unset] [])) (fun tgt k => ?_) ?_
      · show Steps p.tables e below (T1.setTop (mkF m 79 #[.val (.long fr), .second, .val (.long a1), .second, .val (.long tr), .second, .val (.long b1), .second, .val (.long er), .second, .val (.int fg), .val (.long fv), .second, .unset, .unset, .unset, .unset, .unset, .unset, .unset, .unset, .unset] [])) tgt
        refine XS.lload X1.here hx rfl (hb hby at_79) rfl ?_
        show Steps p.tables e below (T1.setTop (mkF m 81 #[.val (.long fr), .second, .val (.long a1), .second, .val (.long tr), .second, .val (.long b1), .second, .val (.long er), .second, .val (.int fg), .val (.long fv), .second, .unset, .unset, .unset, .unset, .unset, .unset, .unset, .unset, .unset] [(.long tr)])) tgt
        refine X1.ldc2Long hx hown (mvT hZ (hw _ (List.mem_of_getElem? (i := 0) rfl))) (g := (mkF m 81 #[.val (.long fr), .second, .val (.long a1), .second, .val (.long tr), .second, .val (.long b1), .second, .val (.long er), .second, .val (.int fg), .val (.long fv), .second, .unset, .unset, .unset, .unset, .unset, .unset, .unset, .unset, .unset] [(.long tr)])) rfl (hb hby at_81) _ ?_
        show Steps p.tables e below (T1.setTop (mkF m 84 #[.val (.long fr), .second, .val (.long a1), .second, .val (.long tr), .second, .val (.long b1), .second, .val (.long er), .second, .val (.int fg), .val (.long fv), .second, .unset, .unset, .unset, .unset, .unset, .unset, .unset, .unset, .unset] [(.long (9223372036854775807 : Int64)), (.long tr)])) tgt
        refine XS.land X1.here hx rfl (hb hby at_84) rfl ?_
        show Steps p.tables e below (T1.setTop (mkF m 85 #[.val (.long fr), .second, .val (.long a1), .second, .val (.long tr), .second, .val (.long b1), .second, .val (.long er), .second, .val (.int fg), .val (.long fv), .second, .unset, .unset, .unset, .unset, .unset, .unset, .unset, .unset, .unset] [(.long (tr &&& (9223372036854775807 : Int64)))])) tgt
        refine XS.lstore X1.here hx rfl (hb hby at_85) rfl (l' := #[.val (.long fr), .second, .val (.long a1), .second, .val (.long tr), .second, .val (.long b1), .second, .val (.long er), .second, .val (.int fg), .val (.long fv), .second, .val (.long (tr &&& (9223372036854775807 : Int64))), .second, .unset, .unset, .unset, .unset, .unset, .unset, .unset]) rfl ?_
        exact k
      obtain ⟨tv, htv⟩ : ∃ z : Int64, z = (tr &&& (9223372036854775807 : Int64)) := ⟨_, rfl⟩
      rw [← htv]
      have ht0 : 0 ≤ tv.toInt := by rw [htv]; exact own_pos64 tr
      refine own_st (V := T1.setTop (mkF m 95 #[.val (.long fr), .second, .val (.long a1), .second, .val (.long tr), .second, .val (.long b1), .second, .val (.long er), .second, .val (.int fg), .val (.long fv), .second, .val (.long tv), .second, .val (.long (er &&& (9223372036854775807 : Int64))), .second, .unset, .unset, .unset, .unset, .unset] [])) (fun tgt k => ?_) ?_
      · show Steps p.tables e below (T1.setTop (mkF m 87 #[.val (.long fr), .second, .val (.long a1), .second, .val (.long tr), .second, .val (.long b1), .second, .val (.long er), .second, .val (.int fg), .val (.long fv), .second, .val (.long tv), .second, .unset, .unset, .unset, .unset, .unset, .unset, .unset] [])) tgt
        refine XS.lload X1.here hx rfl (hb hby at_87) rfl ?_
        show Steps p.tables e below (T1.setTop (mkF m 89 #[.val (.long fr), .second, .val (.long a1), .second, .val (.long tr), .second, .val (.long b1), .second, .val (.long er), .second, .val (.int fg), .val (.long fv), .second, .val (.long tv), .second, .unset, .unset, .unset, .unset, .unset, .unset, .unset] [(.long er)])) tgt
        refine X1.ldc2Long hx hown (mvT hZ (hw _ (List.mem_of_getElem? (i := 0) rfl))) (g := (mkF m 89 #[.val (.long fr), .second, .val (.long a1), .second, .val (.long tr), .second, .val (.long b1), .second, .val (.long er), .second, .val (.int fg), .val (.long fv), .second, .val (.long tv), .second, .unset, .unset, .unset, .unset, .unset, .unset, .unset] [(.long er)])) rfl (hb hby at_89) _ ?_
        show Steps p.tables e below (T1.setTop (mkF m 92 #[.val (.long fr), .second, .val (.long a1), .second, .val (.long tr), .second, .val (.long b1), .second, .val (.long er), .second, .val (.int fg), .val (.long fv), .second, .val (.long tv), .second, .unset, .unset, .unset, .unset, .unset, .unset, .unset] [(.long (9223372036854775807 : Int64)), (.long er)])) tgt
        refine XS.land X1.here hx rfl (hb hby at_92) rfl ?_
        show Steps p.tables e below (T1.setTop (mkF m 93 #[.val (.long fr), .second, .val (.long a1), .second, .val (.long tr), .second, .val (.long b1), .second, .val (.long er), .second, .val (.int fg), .val (.long fv), .second, .val (.long tv), .second, .unset, .unset, .unset, .unset, .unset, .unset, .unset] [(.long (er &&& (9223372036854775807 : Int64)))])) tgt
        refine XS.lstore X1.here hx rfl (hb hby at_93) rfl (l' := #[.val (.long fr), .second, .val (.long a1), .second, .val (.long tr), .second, .val (.long b1), .second, .val (.long er), .second, .val (.int fg), .val (.long fv), .second, .val (.long tv), .second, .val (.long (er &&& (9223372036854775807 : Int64))), .second, .unset, .unset, .unset, .unset, .unset]) rfl ?_
        exact k
      obtain ⟨ev, hev⟩ : ∃ z : Int64, z = (er &&& (9223372036854775807 : Int64)) := ⟨_, rfl⟩
      rw [← hev]
      have he0 : 0 ≤ ev.toInt := by rw [hev]; exact own_pos64 er
      refine own_st (V := T1.setTop (mkF m 99 #[.val (.long fr), .second, .val (.long a1), .second, .val (.long tr), .second, .val (.long b1), .second, .val (.long er), .second, .val (.int fg), .val (.long fv), .second, .val (.long tv), .second, .val (.long ev), .second, .unset, .unset, .unset, .unset, .unset] [(.int (fg &&& (1 : Int32)))])) (fun tgt k => ?_) ?_
      · show Steps p.tables e below (T1.setTop (mkF m 95 #[.val (.long fr), .second, .val (.long a1), .second, .val (.long tr), .second, .val (.long b1), .second, .val (.long er), .second, .val (.int fg), .val (.long fv), .second, .val (.long tv), .second, .val (.long ev), .second, .unset, .unset, .unset, .unset, .unset] [])) tgt
        refine XS.iload X1.here hx rfl (hb hby at_95) rfl ?_
        show Steps p.tables e below (T1.setTop (mkF m 97 #[.val (.long fr), .second, .val (.long a1), .second, .val (.long tr), .second, .val (.long b1), .second, .val (.long er), .second, .val (.int fg), .val (.long fv), .second, .val (.long tv), .second, .val (.long ev), .second, .unset, .unset, .unset, .unset, .unset] [(.int fg)])) tgt
        refine XS.iconst X1.here hx rfl (hb hby at_97) ?_
        show Steps p.tables e below (T1.setTop (mkF m 98 #[.val (.long fr), .second, .val (.long a1), .second, .val (.long tr), .second, .val (.long b1), .second, .val (.long er), .second, .val (.int fg), .val (.long fv), .second, .val (.long tv), .second, .val (.long ev), .second, .unset, .unset, .unset, .unset, .unset] [(.int (1 : Int32)), (.int fg)])) tgt
        refine XS.iand X1.here hx rfl (hb hby at_98) rfl ?_
        exact k
      by_cases hc99 : (fg &&& (1 : Int32)) = (0 : Int32)
      · skip
        refine own_st (V := T1.setTop (mkF m 122 #[.val (.long fr), .second, .val (.long a1), .second, .val (.long tr), .second, .val (.long b1), .second, .val (.long er), .second, .val (.int fg), .val (.long fv), .second, .val (.long tv), .second, .val (.long ev), .second, .val (.int (0 : Int32)), .val (.long a1), .second, .unset, .unset] [])) (fun tgt k => ?_) ?_
        · show Steps p.tables e below (T1.setTop (mkF m 99 #[.val (.long fr), .second, .val (.long a1), .second, .val (.long tr), .second, .val (.long b1), .second, .val (.long er), .second, .val (.int fg), .val (.long fv), .second, .val (.long tv), .second, .val (.long ev), .second, .unset, .unset, .unset, .unset, .unset] [(.int (fg &&& (1 : Int32)))])) tgt
          refine XS.ifYes X1.here hx rfl (pc0 := 99) (pc' := 106) rfl (hb hby at_99) rfl ((if0 _ _).trans (teq hc99).1) (by decide) (by decide) ?_
          show Steps p.tables e below (T1.setTop (mkF m 106 #[.val (.long fr), .second, .val (.long a1), .second, .val (.long tr), .second, .val (.long b1), .second, .val (.long er), .second, .val (.int fg), .val (.long fv), .second, .val (.long tv), .second, .val (.long ev), .second, .unset, .unset, .unset, .unset, .unset] [])) tgt
          refine XS.iconst X1.here hx rfl (hb hby at_106) ?_
          show Steps p.tables e below (T1.setTop (mkF m 107 #[.val (.long fr), .second, .val (.long a1), .second, .val (.long tr), .second, .val (.long b1), .second, .val (.long er), .second, .val (.int fg), .val (.long fv), .second, .val (.long tv), .second, .val (.long ev), .second, .unset, .unset, .unset, .unset, .unset] [(.int (0 : Int32))])) tgt
          refine XS.istore X1.here hx rfl (hb hby at_107) rfl (l' := #[.val (.long fr), .second, .val (.long a1), .second, .val (.long tr), .second, .val (.long b1), .second, .val (.long er), .second, .val (.int fg), .val (.long fv), .second, .val (.long tv), .second, .val (.long ev), .second, .val (.int (0 : Int32)), .unset, .unset, .unset, .unset]) rfl ?_
          show Steps p.tables e below (T1.setTop (mkF m 109 #[.val (.long fr), .second, .val (.long a1), .second, .val (.long tr), .second, .val (.long b1), .second, .val (.long er), .second, .val (.int fg), .val (.long fv), .second, .val (.long tv), .second, .val (.long ev), .second, .val (.int (0 : Int32)), .unset, .unset, .unset, .unset] [])) tgt
          refine XS.iload X1.here hx rfl (hb hby at_109) rfl ?_
          show Steps p.tables e below (T1.setTop (mkF m 111 #[.val (.long fr), .second, .val (.long a1), .second, .val (.long tr), .second, .val (.long b1), .second, .val (.long er), .second, .val (.int fg), .val (.long fv), .second, .val (.long tv), .second, .val (.long ev), .second, .val (.int (0 : Int32)), .unset, .unset, .unset, .unset] [(.int (0 : Int32))])) tgt
          refine XS.ifYes X1.here hx rfl (pc0 := 111) (pc' := 119) rfl (hb hby at_111) rfl ((if0 _ _).trans (teq (by decide : (0 : Int32) = (0 : Int32))).1) (by decide) (by decide) ?_
          show Steps p.tables e below (T1.setTop (mkF m 119 #[.val (.long fr), .second, .val (.long a1), .second, .val (.long tr), .second, .val (.long b1), .second, .val (.long er), .second, .val (.int fg), .val (.long fv), .second, .val (.long tv), .second, .val (.long ev), .second, .val (.int (0 : Int32)), .unset, .unset, .unset, .unset] [])) tgt
          refine XS.lloadN X1.here hx rfl (hb hby at_119) rfl ?_
          show Steps p.tables e below (T1.setTop (mkF m 120 #[.val (.long fr), .second, .val (.long a1), .second, .val (.long tr), .second, .val (.long b1), .second, .val (.long er), .second, .val (.int fg), .val (.long fv), .second, .val (.long tv), .second, .val (.long ev), .second, .val (.int (0 : Int32)), .unset, .unset, .unset, .unset] [(.long a1)])) tgt
          refine XS.lstore X1.here hx rfl (hb hby at_120) rfl (l' := #[.val (.long fr), .second, .val (.long a1), .second, .val (.long tr), .second, .val (.long b1), .second, .val (.long er), .second, .val (.int fg), .val (.long fv), .second, .val (.long tv), .second, .val (.long ev), .second, .val (.int (0 : Int32)), .val (.long a1), .second, .unset, .unset]) rfl ?_
          exact k
        obtain ⟨T2, h2, X2, e2, E2, A2, D2, -, st2⟩ := newO X1 hx hZ hown (hw _ (List.mem_of_getElem? (i := 1) rfl)) (hw _ (List.mem_of_getElem? (i := 2) rfl)) (hw _ (List.mem_of_getElem? (i := 3) rfl)) K1 (g := (mkF m 122 #[.val (.long fr), .second, .val (.long a1), .second, .val (.long tr), .second, .val (.long b1), .second, .val (.long er), .second, .val (.int fg), .val (.long fv), .second, .val (.long tv), .second, .val (.long ev), .second, .val (.int (0 : Int32)), .val (.long a1), .second, .unset, .unset] [])) rfl (hb hby at_122) (by decide) (by decide)
        obtain ⟨pv, g2⟩ : ∃ z, z = h0.size := ⟨_, rfl⟩
        rw [← g2] at A2 D2 st2
        have g_pv : n0 ≤ pv := Nat.le_trans Z0 (Nat.le_of_eq g2.symm)
        have Zs2 : n0 ≤ h2.size := Nat.le_trans Z0 E2.1
        have F_pv_factor_2 : Fld Z h2 pv "com/example/headwater/headwater/connectors/ListingPace" "factor" "J" (.long (0 : Int64)) := D2 (Or.inr (hw _ (List.mem_of_getElem? (i := 11) rfl))) (ty := .long) (by decide)
        have F_pv_began_2 : Fld Z h2 pv "com/example/headwater/headwater/connectors/ListingPace" "began" "J" (.long (0 : Int64)) := D2 (Or.inl (hw _ (List.mem_of_getElem? (i := 13) rfl))) (ty := .long) (by decide)
        have F_pv_took_2 : Fld Z h2 pv "com/example/headwater/headwater/connectors/ListingPace" "took" "J" (.long (0 : Int64)) := D2 (Or.inl (hw _ (List.mem_of_getElem? (i := 20) rfl))) (ty := .long) (by decide)
        refine own_st st2 ?_
        show own_Go p e below _ (T2.setTop (mkF m 125 #[.val (.long fr), .second, .val (.long a1), .second, .val (.long tr), .second, .val (.long b1), .second, .val (.long er), .second, .val (.int fg), .val (.long fv), .second, .val (.long tv), .second, .val (.long ev), .second, .val (.int (0 : Int32)), .val (.long a1), .second, .unset, .unset] [(.ref pv)]))
        refine own_st (V := T2.setTop (mkF m 129 #[.val (.long fr), .second, .val (.long a1), .second, .val (.long tr), .second, .val (.long b1), .second, .val (.long er), .second, .val (.int fg), .val (.long fv), .second, .val (.long tv), .second, .val (.long ev), .second, .val (.int (0 : Int32)), .val (.long a1), .second, .unset, .unset] [(.long a1), (.long fv), (.ref pv), (.ref pv)])) (fun tgt k => ?_) ?_
        · show Steps p.tables e below (T2.setTop (mkF m 125 #[.val (.long fr), .second, .val (.long a1), .second, .val (.long tr), .second, .val (.long b1), .second, .val (.long er), .second, .val (.int fg), .val (.long fv), .second, .val (.long tv), .second, .val (.long ev), .second, .val (.int (0 : Int32)), .val (.long a1), .second, .unset, .unset] [(.ref pv)])) tgt
          refine XS.dup X2.here hx rfl (hb hby at_125) rfl rfl ?_
          show Steps p.tables e below (T2.setTop (mkF m 126 #[.val (.long fr), .second, .val (.long a1), .second, .val (.long tr), .second, .val (.long b1), .second, .val (.long er), .second, .val (.int fg), .val (.long fv), .second, .val (.long tv), .second, .val (.long ev), .second, .val (.int (0 : Int32)), .val (.long a1), .second, .unset, .unset] [(.ref pv), (.ref pv)])) tgt
          refine XS.lload X2.here hx rfl (hb hby at_126) rfl ?_
          show Steps p.tables e below (T2.setTop (mkF m 128 #[.val (.long fr), .second, .val (.long a1), .second, .val (.long tr), .second, .val (.long b1), .second, .val (.long er), .second, .val (.int fg), .val (.long fv), .second, .val (.long tv), .second, .val (.long ev), .second, .val (.int (0 : Int32)), .val (.long a1), .second, .unset, .unset] [(.long fv), (.ref pv), (.ref pv)])) tgt
          refine XS.lloadN X2.here hx rfl (hb hby at_128) rfl ?_
          exact k
        obtain ⟨_, _, ⟨T3, L3, k3, n3⟩, -, X3, ⟨Lc3, hQ3, l3, y3, z3⟩, st3⟩ := X2.specialBack hx (y := (⟨"com/example/headwater/headwater/connectors/ListingPace", "<init>", "(JJ)V"⟩ : MethodName)) rfl hown (mvT hZ (hw _ (List.mem_of_getElem? (i := 4) rfl))) (mvT hZ (hw _ (List.mem_of_getElem? (i := 5) rfl))) (mvT hZ (hw _ (List.mem_of_getElem? (i := 6) rfl))) (by decide) (backOf (W := 1) (rm1 l Z a0 hw [] pv fv a1 h2 n0 Zs2 A2 F_pv_factor_2 F_pv_began_2 F_pv_took_2 g_pv) hZ (hw _ (List.mem_of_getElem? (i := 6) rfl)) (hw _ (List.mem_of_getElem? (i := 3) rfl)) (by decide) (by decide)) (g := (mkF m 129 #[.val (.long fr), .second, .val (.long a1), .second, .val (.long tr), .second, .val (.long b1), .second, .val (.long er), .second, .val (.int fg), .val (.long fv), .second, .val (.long tv), .second, .val (.long ev), .second, .val (.int (0 : Int32)), .val (.long a1), .second, .unset, .unset] [(.long a1), (.long fv), (.ref pv), (.ref pv)])) rfl (by rw [hml]; rfl) (Steps.refl _) (a := pv) (argsL := [(.long fv), (.long a1)]) (rest := [(.ref pv)]) (lenOf pd_0_1 rfl) rfl (by show 2 * 0 + _ ≤ _; exact Nat.le_of_eq rfl) (hb hby at_129) (fun _ _ => ⟨rfl, e2, (by decide : 1 + 0 ≤ _), (by decide : 3 + 0 ≤ _)⟩)
        dsimp only [Pt.U, Pt.locs, Pt.cells, Pt.slots] at X3 l3 y3 z3 st3 hQ3
        subst l3 y3 z3
        obtain ⟨rfl, N3q, K3, g3_0, g3_1, g3_2, g3_3⟩ := hQ3
        have N3 := Fr.app N1 N3q
        have E_pv_3 := A2.keep K3
        have Zs3 : n0 ≤ T3.heap.size := Nat.le_trans Zs2 K3.1
        refine own_st (fun tgt k => st3.trans k) ?_
        show own_Go p e below _ (T3.setTop (mkF m 132 #[.val (.long fr), .second, .val (.long a1), .second, .val (.long tr), .second, .val (.long b1), .second, .val (.long er), .second, .val (.int fg), .val (.long fv), .second, .val (.long tv), .second, .val (.long ev), .second, .val (.int (0 : Int32)), .val (.long a1), .second, .unset, .unset] [(.ref pv)]))
        refine own_st (V := T3.setTop (mkF m 140 #[.val (.long fr), .second, .val (.long a1), .second, .val (.long tr), .second, .val (.long b1), .second, .val (.long er), .second, .val (.int fg), .val (.long fv), .second, .val (.long tv), .second, .val (.long ev), .second, .val (.int (0 : Int32)), .val (.long a1), .second, .val (.ref pv), .unset] [(.long (a1 + tv)), (.ref pv)])) (fun tgt k => ?_) ?_
        · show Steps p.tables e below (T3.setTop (mkF m 132 #[.val (.long fr), .second, .val (.long a1), .second, .val (.long tr), .second, .val (.long b1), .second, .val (.long er), .second, .val (.int fg), .val (.long fv), .second, .val (.long tv), .second, .val (.long ev), .second, .val (.int (0 : Int32)), .val (.long a1), .second, .unset, .unset] [(.ref pv)])) tgt
          refine XS.astore X3.here hx rfl (hb hby at_132) rfl rfl (l' := #[.val (.long fr), .second, .val (.long a1), .second, .val (.long tr), .second, .val (.long b1), .second, .val (.long er), .second, .val (.int fg), .val (.long fv), .second, .val (.long tv), .second, .val (.long ev), .second, .val (.int (0 : Int32)), .val (.long a1), .second, .val (.ref pv), .unset]) rfl ?_
          show Steps p.tables e below (T3.setTop (mkF m 134 #[.val (.long fr), .second, .val (.long a1), .second, .val (.long tr), .second, .val (.long b1), .second, .val (.long er), .second, .val (.int fg), .val (.long fv), .second, .val (.long tv), .second, .val (.long ev), .second, .val (.int (0 : Int32)), .val (.long a1), .second, .val (.ref pv), .unset] [])) tgt
          refine XS.aload X3.here hx rfl (hb hby at_134) rfl rfl ?_
          show Steps p.tables e below (T3.setTop (mkF m 136 #[.val (.long fr), .second, .val (.long a1), .second, .val (.long tr), .second, .val (.long b1), .second, .val (.long er), .second, .val (.int fg), .val (.long fv), .second, .val (.long tv), .second, .val (.long ev), .second, .val (.int (0 : Int32)), .val (.long a1), .second, .val (.ref pv), .unset] [(.ref pv)])) tgt
          refine XS.lloadN X3.here hx rfl (hb hby at_136) rfl ?_
          show Steps p.tables e below (T3.setTop (mkF m 137 #[.val (.long fr), .second, .val (.long a1), .second, .val (.long tr), .second, .val (.long b1), .second, .val (.long er), .second, .val (.int fg), .val (.long fv), .second, .val (.long tv), .second, .val (.long ev), .second, .val (.int (0 : Int32)), .val (.long a1), .second, .val (.ref pv), .unset] [(.long a1), (.ref pv)])) tgt
          refine XS.lload X3.here hx rfl (hb hby at_137) rfl ?_
          show Steps p.tables e below (T3.setTop (mkF m 139 #[.val (.long fr), .second, .val (.long a1), .second, .val (.long tr), .second, .val (.long b1), .second, .val (.long er), .second, .val (.int fg), .val (.long fv), .second, .val (.long tv), .second, .val (.long ev), .second, .val (.int (0 : Int32)), .val (.long a1), .second, .val (.ref pv), .unset] [(.long tv), (.long a1), (.ref pv)])) tgt
          refine XS.ladd X3.here hx rfl (hb hby at_139) rfl ?_
          exact k
        obtain ⟨cq4, kq4, q4a, q4b, q4c⟩ := isOf hZ rfl g3_0
        obtain ⟨_, _, ⟨T4, L4, k4, n4⟩, -, X4, ⟨Lc4, hQ4, l4, y4, z4⟩, st4⟩ := X3.virtualBack hx (y := (⟨"com/example/headwater/headwater/connectors/ListingPace", "ended", "(J)V"⟩ : MethodName)) (z := (⟨"com/example/headwater/headwater/connectors/ListingPace", "ended", "(J)V"⟩ : MethodName)) hown (mvT hZ (hw _ (List.mem_of_getElem? (i := 14) rfl))) (mvT hZ (hw _ (List.mem_of_getElem? (i := 15) rfl))) (notFace_of_selects (args := #[]) (mvT hZ (hw _ (List.mem_of_getElem? (i := 17) rfl)))) (mvT hZ (hw _ (List.mem_of_getElem? (i := 17) rfl))) (mvT hZ (hw _ (List.mem_of_getElem? (i := 16) rfl))) (by decide) (backOf (W := 0) (rm3 l Z a0 hw [] pv (a1 + tv) fv a1 (0 : Int64) T3.heap n0 Zs3 g3_0 g3_1 g3_2 g3_3 g_pv) hZ (hw _ (List.mem_of_getElem? (i := 18) rfl)) (hw _ (List.mem_of_getElem? (i := 3) rfl)) (by decide) (by decide)) q4a q4c (g := (mkF m 140 #[.val (.long fr), .second, .val (.long a1), .second, .val (.long tr), .second, .val (.long b1), .second, .val (.long er), .second, .val (.int fg), .val (.long fv), .second, .val (.long tv), .second, .val (.long ev), .second, .val (.int (0 : Int32)), .val (.long a1), .second, .val (.ref pv), .unset] [(.long (a1 + tv)), (.ref pv)])) rfl (by rw [hml]; rfl) (Steps.refl _) (argsL := [(.long (a1 + tv))]) (rest := []) (lenOf pd_0_2 rfl) rfl (by show 2 * 0 + _ ≤ _; exact Nat.le_of_eq rfl) (hb hby at_140) (fun _ _ => ⟨rfl, rfl, (by decide : 1 + 0 ≤ _), (by decide : 3 + 0 ≤ _)⟩)
        dsimp only [Pt.U, Pt.locs, Pt.cells, Pt.slots] at X4 l4 y4 z4 st4 hQ4
        subst l4 y4 z4
        obtain ⟨rfl, N4q, K4, g4_0, g4_1, g4_2, g4_3⟩ := hQ4
        have N4 := Fr.app N3 N4q
        have E_pv_4 := g3_0.keep K4
        have Zs4 : n0 ≤ T4.heap.size := Nat.le_trans Zs3 K4.1
        refine own_st (fun tgt k => st4.trans k) ?_
        show own_Go p e below _ (T4.setTop (mkF m 143 #[.val (.long fr), .second, .val (.long a1), .second, .val (.long tr), .second, .val (.long b1), .second, .val (.long er), .second, .val (.int fg), .val (.long fv), .second, .val (.long tv), .second, .val (.long ev), .second, .val (.int (0 : Int32)), .val (.long a1), .second, .val (.ref pv), .unset] []))
        refine own_st (V := T4.setTop (mkF m 162 #[.val (.long fr), .second, .val (.long a1), .second, .val (.long tr), .second, .val (.long b1), .second, .val (.long er), .second, .val (.int fg), .val (.long fv), .second, .val (.long tv), .second, .val (.long ev), .second, .val (.int (0 : Int32)), .val (.long a1), .second, .val (.ref pv), .unset] [(.long (a1 + ev)), (.ref pv)])) (fun tgt k => ?_) ?_
        · show Steps p.tables e below (T4.setTop (mkF m 143 #[.val (.long fr), .second, .val (.long a1), .second, .val (.long tr), .second, .val (.long b1), .second, .val (.long er), .second, .val (.int fg), .val (.long fv), .second, .val (.long tv), .second, .val (.long ev), .second, .val (.int (0 : Int32)), .val (.long a1), .second, .val (.ref pv), .unset] [])) tgt
          refine XS.iload X4.here hx rfl (hb hby at_143) rfl ?_
          show Steps p.tables e below (T4.setTop (mkF m 145 #[.val (.long fr), .second, .val (.long a1), .second, .val (.long tr), .second, .val (.long b1), .second, .val (.long er), .second, .val (.int fg), .val (.long fv), .second, .val (.long tv), .second, .val (.long ev), .second, .val (.int (0 : Int32)), .val (.long a1), .second, .val (.ref pv), .unset] [(.int (0 : Int32))])) tgt
          refine XS.ifYes X4.here hx rfl (pc0 := 145) (pc' := 155) rfl (hb hby at_145) rfl ((if0 _ _).trans (teq (by decide : (0 : Int32) = (0 : Int32))).1) (by decide) (by decide) ?_
          show Steps p.tables e below (T4.setTop (mkF m 155 #[.val (.long fr), .second, .val (.long a1), .second, .val (.long tr), .second, .val (.long b1), .second, .val (.long er), .second, .val (.int fg), .val (.long fv), .second, .val (.long tv), .second, .val (.long ev), .second, .val (.int (0 : Int32)), .val (.long a1), .second, .val (.ref pv), .unset] [])) tgt
          refine XS.aload X4.here hx rfl (hb hby at_155) rfl rfl ?_
          show Steps p.tables e below (T4.setTop (mkF m 157 #[.val (.long fr), .second, .val (.long a1), .second, .val (.long tr), .second, .val (.long b1), .second, .val (.long er), .second, .val (.int fg), .val (.long fv), .second, .val (.long tv), .second, .val (.long ev), .second, .val (.int (0 : Int32)), .val (.long a1), .second, .val (.ref pv), .unset] [(.ref pv)])) tgt
          refine XS.lload X4.here hx rfl (hb hby at_157) rfl ?_
          show Steps p.tables e below (T4.setTop (mkF m 159 #[.val (.long fr), .second, .val (.long a1), .second, .val (.long tr), .second, .val (.long b1), .second, .val (.long er), .second, .val (.int fg), .val (.long fv), .second, .val (.long tv), .second, .val (.long ev), .second, .val (.int (0 : Int32)), .val (.long a1), .second, .val (.ref pv), .unset] [(.long a1), (.ref pv)])) tgt
          refine XS.lload X4.here hx rfl (hb hby at_159) rfl ?_
          show Steps p.tables e below (T4.setTop (mkF m 161 #[.val (.long fr), .second, .val (.long a1), .second, .val (.long tr), .second, .val (.long b1), .second, .val (.long er), .second, .val (.int fg), .val (.long fv), .second, .val (.long tv), .second, .val (.long ev), .second, .val (.int (0 : Int32)), .val (.long a1), .second, .val (.ref pv), .unset] [(.long ev), (.long a1), (.ref pv)])) tgt
          refine XS.ladd X4.here hx rfl (hb hby at_161) rfl ?_
          exact k
        obtain ⟨cq5, kq5, q5a, q5b, q5c⟩ := isOf hZ rfl g4_0
        obtain ⟨_, _, ⟨T5, L5, k5, n5⟩, -, X5, ⟨Lc5, hQ5, l5, y5, z5⟩, st5⟩ := X4.virtualBack hx (y := (⟨"com/example/headwater/headwater/connectors/ListingPace", "allows", "(J)Z"⟩ : MethodName)) (z := (⟨"com/example/headwater/headwater/connectors/ListingPace", "allows", "(J)Z"⟩ : MethodName)) hown (mvT hZ (hw _ (List.mem_of_getElem? (i := 21) rfl))) (mvT hZ (hw _ (List.mem_of_getElem? (i := 22) rfl))) (notFace_of_selects (args := #[]) (mvT hZ (hw _ (List.mem_of_getElem? (i := 24) rfl)))) (mvT hZ (hw _ (List.mem_of_getElem? (i := 24) rfl))) (mvT hZ (hw _ (List.mem_of_getElem? (i := 23) rfl))) (by decide) (backOf (W := 0) (rm4 l Z a0 hw [] pv (a1 + ev) fv a1 ((a1 + tv) - a1) T4.heap n0 Zs4 g4_0 g4_1 g4_2 g4_3 (own_nz64 hf1)) hZ (hw _ (List.mem_of_getElem? (i := 25) rfl)) (hw _ (List.mem_of_getElem? (i := 3) rfl)) (by decide) (by decide)) q5a q5c (g := (mkF m 162 #[.val (.long fr), .second, .val (.long a1), .second, .val (.long tr), .second, .val (.long b1), .second, .val (.long er), .second, .val (.int fg), .val (.long fv), .second, .val (.long tv), .second, .val (.long ev), .second, .val (.int (0 : Int32)), .val (.long a1), .second, .val (.ref pv), .unset] [(.long (a1 + ev)), (.ref pv)])) rfl (by rw [hml]; rfl) (Steps.refl _) (argsL := [(.long (a1 + ev))]) (rest := []) (lenOf pd_0_3 rfl) rfl (by show 2 * 0 + _ ≤ _; exact Nat.le_of_eq rfl) (hb hby at_162) (fun _ _ => ⟨rfl, rfl, (by decide : 1 + 0 ≤ _), (by decide : 3 + 0 ≤ _)⟩)
        dsimp only [Pt.U, Pt.locs, Pt.cells, Pt.slots] at X5 l5 y5 z5 st5 hQ5
        subst l5 y5 z5
        obtain ⟨rfl, N5q, K5⟩ := hQ5
        have N5 := Fr.app N4 N5q
        refine own_st (fun tgt k => st5.trans k) ?_
        show own_Go p e below _ (T5.setTop (mkF m 165 #[.val (.long fr), .second, .val (.long a1), .second, .val (.long tr), .second, .val (.long b1), .second, .val (.long er), .second, .val (.int fg), .val (.long fv), .second, .val (.long tv), .second, .val (.long ev), .second, .val (.int (0 : Int32)), .val (.long a1), .second, .val (.ref pv), .unset] [(.int (own_A fv a1 ((a1 + tv) - a1) (a1 + ev)))]))
        refine own_st (V := T5.setTop (mkF m 175 #[.val (.long fr), .second, .val (.long a1), .second, .val (.long tr), .second, .val (.long b1), .second, .val (.long er), .second, .val (.int fg), .val (.long fv), .second, .val (.long tv), .second, .val (.long ev), .second, .val (.int (0 : Int32)), .val (.long a1), .second, .val (.ref pv), .val (.int (own_A fv a1 ((a1 + tv) - a1) (a1 + ev)))] [(.long ev), (.long tv), (.long fv), (.int (own_A fv a1 ((a1 + tv) - a1) (a1 + ev)))])) (fun tgt k => ?_) ?_
        · show Steps p.tables e below (T5.setTop (mkF m 165 #[.val (.long fr), .second, .val (.long a1), .second, .val (.long tr), .second, .val (.long b1), .second, .val (.long er), .second, .val (.int fg), .val (.long fv), .second, .val (.long tv), .second, .val (.long ev), .second, .val (.int (0 : Int32)), .val (.long a1), .second, .val (.ref pv), .unset] [(.int (own_A fv a1 ((a1 + tv) - a1) (a1 + ev)))])) tgt
          refine XS.istore X5.here hx rfl (hb hby at_165) rfl (l' := #[.val (.long fr), .second, .val (.long a1), .second, .val (.long tr), .second, .val (.long b1), .second, .val (.long er), .second, .val (.int fg), .val (.long fv), .second, .val (.long tv), .second, .val (.long ev), .second, .val (.int (0 : Int32)), .val (.long a1), .second, .val (.ref pv), .val (.int (own_A fv a1 ((a1 + tv) - a1) (a1 + ev)))]) rfl ?_
          show Steps p.tables e below (T5.setTop (mkF m 167 #[.val (.long fr), .second, .val (.long a1), .second, .val (.long tr), .second, .val (.long b1), .second, .val (.long er), .second, .val (.int fg), .val (.long fv), .second, .val (.long tv), .second, .val (.long ev), .second, .val (.int (0 : Int32)), .val (.long a1), .second, .val (.ref pv), .val (.int (own_A fv a1 ((a1 + tv) - a1) (a1 + ev)))] [])) tgt
          refine XS.iload X5.here hx rfl (hb hby at_167) rfl ?_
          show Steps p.tables e below (T5.setTop (mkF m 169 #[.val (.long fr), .second, .val (.long a1), .second, .val (.long tr), .second, .val (.long b1), .second, .val (.long er), .second, .val (.int fg), .val (.long fv), .second, .val (.long tv), .second, .val (.long ev), .second, .val (.int (0 : Int32)), .val (.long a1), .second, .val (.ref pv), .val (.int (own_A fv a1 ((a1 + tv) - a1) (a1 + ev)))] [(.int (own_A fv a1 ((a1 + tv) - a1) (a1 + ev)))])) tgt
          refine XS.lload X5.here hx rfl (hb hby at_169) rfl ?_
          show Steps p.tables e below (T5.setTop (mkF m 171 #[.val (.long fr), .second, .val (.long a1), .second, .val (.long tr), .second, .val (.long b1), .second, .val (.long er), .second, .val (.int fg), .val (.long fv), .second, .val (.long tv), .second, .val (.long ev), .second, .val (.int (0 : Int32)), .val (.long a1), .second, .val (.ref pv), .val (.int (own_A fv a1 ((a1 + tv) - a1) (a1 + ev)))] [(.long fv), (.int (own_A fv a1 ((a1 + tv) - a1) (a1 + ev)))])) tgt
          refine XS.lload X5.here hx rfl (hb hby at_171) rfl ?_
          show Steps p.tables e below (T5.setTop (mkF m 173 #[.val (.long fr), .second, .val (.long a1), .second, .val (.long tr), .second, .val (.long b1), .second, .val (.long er), .second, .val (.int fg), .val (.long fv), .second, .val (.long tv), .second, .val (.long ev), .second, .val (.int (0 : Int32)), .val (.long a1), .second, .val (.ref pv), .val (.int (own_A fv a1 ((a1 + tv) - a1) (a1 + ev)))] [(.long tv), (.long fv), (.int (own_A fv a1 ((a1 + tv) - a1) (a1 + ev)))])) tgt
          refine XS.lload X5.here hx rfl (hb hby at_173) rfl ?_
          exact k
        obtain ⟨_, _, ⟨T6, L6, k6, n6⟩, -, X6, ⟨Lc6, hQ6, l6, y6, z6⟩, st6⟩ := Jvm.LawKit.callS X5 hx (y := (⟨"com/example/headwater/headwater/connectors/ListingPaceAllowsPinLaw", "expected", "(JJJ)Z"⟩ : MethodName)) hown (mvT hZ (hw _ (List.mem_of_getElem? (i := 26) rfl))) (mvT hZ (hw _ (List.mem_of_getElem? (i := 27) rfl))) (mvT hZ (hw _ (List.mem_of_getElem? (i := 28) rfl))) (mvT hZ (hw _ (List.mem_of_getElem? (i := 29) rfl))) (by decide) (backOf (W := 1) (rm5 l Z a0 hw [] fv tv ev T4.heap n0 Zs4 ) hZ (hw _ (List.mem_of_getElem? (i := 29) rfl)) (hw _ (List.mem_of_getElem? (i := 28) rfl)) (by decide) (by decide)) (g := (mkF m 175 #[.val (.long fr), .second, .val (.long a1), .second, .val (.long tr), .second, .val (.long b1), .second, .val (.long er), .second, .val (.int fg), .val (.long fv), .second, .val (.long tv), .second, .val (.long ev), .second, .val (.int (0 : Int32)), .val (.long a1), .second, .val (.ref pv), .val (.int (own_A fv a1 ((a1 + tv) - a1) (a1 + ev)))] [(.long ev), (.long tv), (.long fv), (.int (own_A fv a1 ((a1 + tv) - a1) (a1 + ev)))])) rfl (by rw [hml]; rfl) (argsL := [(.long fv), (.long tv), (.long ev)]) (rest := [(.int (own_A fv a1 ((a1 + tv) - a1) (a1 + ev)))]) (lenOf pd_0_4 rfl) rfl (by show 2 * 0 + _ ≤ _; exact Nat.le_of_eq rfl) (hb hby at_175) (fun _ _ => ⟨rfl, K5, (by decide : 1 + 0 ≤ _), (by decide : 3 + 0 ≤ _)⟩)
        dsimp only [Pt.U, Pt.locs, Pt.cells, Pt.slots] at X6 l6 y6 z6 st6 hQ6
        subst l6 y6 z6
        obtain ⟨rfl, N6q, K6⟩ := hQ6
        have N6 := Fr.app N5 N6q
        refine own_st st6 ?_
        show own_Go p e below _ (T6.setTop (mkF m 178 #[.val (.long fr), .second, .val (.long a1), .second, .val (.long tr), .second, .val (.long b1), .second, .val (.long er), .second, .val (.int fg), .val (.long fv), .second, .val (.long tv), .second, .val (.long ev), .second, .val (.int (0 : Int32)), .val (.long a1), .second, .val (.ref pv), .val (.int (own_A fv a1 ((a1 + tv) - a1) (a1 + ev)))] [(.int (own_E fv tv ev)), (.int (own_A fv a1 ((a1 + tv) - a1) (a1 + ev)))]))
        refine own_st (V := T6.setTop (mkF m 186 #[.val (.long fr), .second, .val (.long a1), .second, .val (.long tr), .second, .val (.long b1), .second, .val (.long er), .second, .val (.int fg), .val (.long fv), .second, .val (.long tv), .second, .val (.long ev), .second, .val (.int (0 : Int32)), .val (.long a1), .second, .val (.ref pv), .val (.int (own_A fv a1 ((a1 + tv) - a1) (a1 + ev)))] [(.int (1 : Int32))])) (fun tgt k => ?_) ?_
        · show Steps p.tables e below (T6.setTop (mkF m 178 #[.val (.long fr), .second, .val (.long a1), .second, .val (.long tr), .second, .val (.long b1), .second, .val (.long er), .second, .val (.int fg), .val (.long fv), .second, .val (.long tv), .second, .val (.long ev), .second, .val (.int (0 : Int32)), .val (.long a1), .second, .val (.ref pv), .val (.int (own_A fv a1 ((a1 + tv) - a1) (a1 + ev)))] [(.int (own_E fv tv ev)), (.int (own_A fv a1 ((a1 + tv) - a1) (a1 + ev)))])) tgt
          refine XS.icmpNo X6.here hx rfl (hb hby at_178) rfl (teq (own_law _ _ _ _ _ hf1 ht0 he0)).2 ?_
          show Steps p.tables e below (T6.setTop (mkF m 181 #[.val (.long fr), .second, .val (.long a1), .second, .val (.long tr), .second, .val (.long b1), .second, .val (.long er), .second, .val (.int fg), .val (.long fv), .second, .val (.long tv), .second, .val (.long ev), .second, .val (.int (0 : Int32)), .val (.long a1), .second, .val (.ref pv), .val (.int (own_A fv a1 ((a1 + tv) - a1) (a1 + ev)))] [])) tgt
          refine XS.iconst X6.here hx rfl (hb hby at_181) ?_
          show Steps p.tables e below (T6.setTop (mkF m 182 #[.val (.long fr), .second, .val (.long a1), .second, .val (.long tr), .second, .val (.long b1), .second, .val (.long er), .second, .val (.int fg), .val (.long fv), .second, .val (.long tv), .second, .val (.long ev), .second, .val (.int (0 : Int32)), .val (.long a1), .second, .val (.ref pv), .val (.int (own_A fv a1 ((a1 + tv) - a1) (a1 + ev)))] [(.int (1 : Int32))])) tgt
          refine XS.goto X6.here hx rfl (pc0 := 182) (pc' := 186) rfl (hb hby at_182) (by decide) (by decide) ?_
          exact k
        refine own_retN X6 hx hlk (t := .boolean) (z' := (1 : Int32)) Bd.returns (by simp) rfl (hb hby at_186) ?_ (by decide) (by decide)
        show Q0 Z fr a1 tr b1 er fg h0 n0 (some (.int (1 : Int32))) T6.heap _
        rw [K6]
        exact ⟨rfl, N6⟩
      · skip
        refine own_st (V := T1.setTop (mkF m 122 #[.val (.long fr), .second, .val (.long a1), .second, .val (.long tr), .second, .val (.long b1), .second, .val (.long er), .second, .val (.int fg), .val (.long fv), .second, .val (.long tv), .second, .val (.long ev), .second, .val (.int (1 : Int32)), .val (.long b1), .second, .unset, .unset] [])) (fun tgt k => ?_) ?_
        · show Steps p.tables e below (T1.setTop (mkF m 99 #[.val (.long fr), .second, .val (.long a1), .second, .val (.long tr), .second, .val (.long b1), .second, .val (.long er), .second, .val (.int fg), .val (.long fv), .second, .val (.long tv), .second, .val (.long ev), .second, .unset, .unset, .unset, .unset, .unset] [(.int (fg &&& (1 : Int32)))])) tgt
          refine XS.ifNo X1.here hx rfl (hb hby at_99) rfl ((if0 _ _).trans (feq hc99).1) ?_
          show Steps p.tables e below (T1.setTop (mkF m 102 #[.val (.long fr), .second, .val (.long a1), .second, .val (.long tr), .second, .val (.long b1), .second, .val (.long er), .second, .val (.int fg), .val (.long fv), .second, .val (.long tv), .second, .val (.long ev), .second, .unset, .unset, .unset, .unset, .unset] [])) tgt
          refine XS.iconst X1.here hx rfl (hb hby at_102) ?_
          show Steps p.tables e below (T1.setTop (mkF m 103 #[.val (.long fr), .second, .val (.long a1), .second, .val (.long tr), .second, .val (.long b1), .second, .val (.long er), .second, .val (.int fg), .val (.long fv), .second, .val (.long tv), .second, .val (.long ev), .second, .unset, .unset, .unset, .unset, .unset] [(.int (1 : Int32))])) tgt
          refine XS.goto X1.here hx rfl (pc0 := 103) (pc' := 107) rfl (hb hby at_103) (by decide) (by decide) ?_
          show Steps p.tables e below (T1.setTop (mkF m 107 #[.val (.long fr), .second, .val (.long a1), .second, .val (.long tr), .second, .val (.long b1), .second, .val (.long er), .second, .val (.int fg), .val (.long fv), .second, .val (.long tv), .second, .val (.long ev), .second, .unset, .unset, .unset, .unset, .unset] [(.int (1 : Int32))])) tgt
          refine XS.istore X1.here hx rfl (hb hby at_107) rfl (l' := #[.val (.long fr), .second, .val (.long a1), .second, .val (.long tr), .second, .val (.long b1), .second, .val (.long er), .second, .val (.int fg), .val (.long fv), .second, .val (.long tv), .second, .val (.long ev), .second, .val (.int (1 : Int32)), .unset, .unset, .unset, .unset]) rfl ?_
          show Steps p.tables e below (T1.setTop (mkF m 109 #[.val (.long fr), .second, .val (.long a1), .second, .val (.long tr), .second, .val (.long b1), .second, .val (.long er), .second, .val (.int fg), .val (.long fv), .second, .val (.long tv), .second, .val (.long ev), .second, .val (.int (1 : Int32)), .unset, .unset, .unset, .unset] [])) tgt
          refine XS.iload X1.here hx rfl (hb hby at_109) rfl ?_
          show Steps p.tables e below (T1.setTop (mkF m 111 #[.val (.long fr), .second, .val (.long a1), .second, .val (.long tr), .second, .val (.long b1), .second, .val (.long er), .second, .val (.int fg), .val (.long fv), .second, .val (.long tv), .second, .val (.long ev), .second, .val (.int (1 : Int32)), .unset, .unset, .unset, .unset] [(.int (1 : Int32))])) tgt
          refine XS.ifNo X1.here hx rfl (hb hby at_111) rfl ((if0 _ _).trans (feq (by decide : ¬ ((1 : Int32) = (0 : Int32)))).1) ?_
          show Steps p.tables e below (T1.setTop (mkF m 114 #[.val (.long fr), .second, .val (.long a1), .second, .val (.long tr), .second, .val (.long b1), .second, .val (.long er), .second, .val (.int fg), .val (.long fv), .second, .val (.long tv), .second, .val (.long ev), .second, .val (.int (1 : Int32)), .unset, .unset, .unset, .unset] [])) tgt
          refine XS.lload X1.here hx rfl (hb hby at_114) rfl ?_
          show Steps p.tables e below (T1.setTop (mkF m 116 #[.val (.long fr), .second, .val (.long a1), .second, .val (.long tr), .second, .val (.long b1), .second, .val (.long er), .second, .val (.int fg), .val (.long fv), .second, .val (.long tv), .second, .val (.long ev), .second, .val (.int (1 : Int32)), .unset, .unset, .unset, .unset] [(.long b1)])) tgt
          refine XS.goto X1.here hx rfl (pc0 := 116) (pc' := 120) rfl (hb hby at_116) (by decide) (by decide) ?_
          show Steps p.tables e below (T1.setTop (mkF m 120 #[.val (.long fr), .second, .val (.long a1), .second, .val (.long tr), .second, .val (.long b1), .second, .val (.long er), .second, .val (.int fg), .val (.long fv), .second, .val (.long tv), .second, .val (.long ev), .second, .val (.int (1 : Int32)), .unset, .unset, .unset, .unset] [(.long b1)])) tgt
          refine XS.lstore X1.here hx rfl (hb hby at_120) rfl (l' := #[.val (.long fr), .second, .val (.long a1), .second, .val (.long tr), .second, .val (.long b1), .second, .val (.long er), .second, .val (.int fg), .val (.long fv), .second, .val (.long tv), .second, .val (.long ev), .second, .val (.int (1 : Int32)), .val (.long b1), .second, .unset, .unset]) rfl ?_
          exact k
        obtain ⟨T8, h8, X8, e8, E8, A8, D8, -, st8⟩ := newO X1 hx hZ hown (hw _ (List.mem_of_getElem? (i := 1) rfl)) (hw _ (List.mem_of_getElem? (i := 2) rfl)) (hw _ (List.mem_of_getElem? (i := 3) rfl)) K1 (g := (mkF m 122 #[.val (.long fr), .second, .val (.long a1), .second, .val (.long tr), .second, .val (.long b1), .second, .val (.long er), .second, .val (.int fg), .val (.long fv), .second, .val (.long tv), .second, .val (.long ev), .second, .val (.int (1 : Int32)), .val (.long b1), .second, .unset, .unset] [])) rfl (hb hby at_122) (by decide) (by decide)
        obtain ⟨pv, g8⟩ : ∃ z, z = h0.size := ⟨_, rfl⟩
        rw [← g8] at A8 D8 st8
        have g_pv : n0 ≤ pv := Nat.le_trans Z0 (Nat.le_of_eq g8.symm)
        have Zs8 : n0 ≤ h8.size := Nat.le_trans Z0 E8.1
        have F_pv_factor_8 : Fld Z h8 pv "com/example/headwater/headwater/connectors/ListingPace" "factor" "J" (.long (0 : Int64)) := D8 (Or.inr (hw _ (List.mem_of_getElem? (i := 11) rfl))) (ty := .long) (by decide)
        have F_pv_began_8 : Fld Z h8 pv "com/example/headwater/headwater/connectors/ListingPace" "began" "J" (.long (0 : Int64)) := D8 (Or.inl (hw _ (List.mem_of_getElem? (i := 13) rfl))) (ty := .long) (by decide)
        have F_pv_took_8 : Fld Z h8 pv "com/example/headwater/headwater/connectors/ListingPace" "took" "J" (.long (0 : Int64)) := D8 (Or.inl (hw _ (List.mem_of_getElem? (i := 20) rfl))) (ty := .long) (by decide)
        refine own_st st8 ?_
        show own_Go p e below _ (T8.setTop (mkF m 125 #[.val (.long fr), .second, .val (.long a1), .second, .val (.long tr), .second, .val (.long b1), .second, .val (.long er), .second, .val (.int fg), .val (.long fv), .second, .val (.long tv), .second, .val (.long ev), .second, .val (.int (1 : Int32)), .val (.long b1), .second, .unset, .unset] [(.ref pv)]))
        refine own_st (V := T8.setTop (mkF m 129 #[.val (.long fr), .second, .val (.long a1), .second, .val (.long tr), .second, .val (.long b1), .second, .val (.long er), .second, .val (.int fg), .val (.long fv), .second, .val (.long tv), .second, .val (.long ev), .second, .val (.int (1 : Int32)), .val (.long b1), .second, .unset, .unset] [(.long a1), (.long fv), (.ref pv), (.ref pv)])) (fun tgt k => ?_) ?_
        · show Steps p.tables e below (T8.setTop (mkF m 125 #[.val (.long fr), .second, .val (.long a1), .second, .val (.long tr), .second, .val (.long b1), .second, .val (.long er), .second, .val (.int fg), .val (.long fv), .second, .val (.long tv), .second, .val (.long ev), .second, .val (.int (1 : Int32)), .val (.long b1), .second, .unset, .unset] [(.ref pv)])) tgt
          refine XS.dup X8.here hx rfl (hb hby at_125) rfl rfl ?_
          show Steps p.tables e below (T8.setTop (mkF m 126 #[.val (.long fr), .second, .val (.long a1), .second, .val (.long tr), .second, .val (.long b1), .second, .val (.long er), .second, .val (.int fg), .val (.long fv), .second, .val (.long tv), .second, .val (.long ev), .second, .val (.int (1 : Int32)), .val (.long b1), .second, .unset, .unset] [(.ref pv), (.ref pv)])) tgt
          refine XS.lload X8.here hx rfl (hb hby at_126) rfl ?_
          show Steps p.tables e below (T8.setTop (mkF m 128 #[.val (.long fr), .second, .val (.long a1), .second, .val (.long tr), .second, .val (.long b1), .second, .val (.long er), .second, .val (.int fg), .val (.long fv), .second, .val (.long tv), .second, .val (.long ev), .second, .val (.int (1 : Int32)), .val (.long b1), .second, .unset, .unset] [(.long fv), (.ref pv), (.ref pv)])) tgt
          refine XS.lloadN X8.here hx rfl (hb hby at_128) rfl ?_
          exact k
        obtain ⟨_, _, ⟨T9, L9, k9, n9⟩, -, X9, ⟨Lc9, hQ9, l9, y9, z9⟩, st9⟩ := X8.specialBack hx (y := (⟨"com/example/headwater/headwater/connectors/ListingPace", "<init>", "(JJ)V"⟩ : MethodName)) rfl hown (mvT hZ (hw _ (List.mem_of_getElem? (i := 4) rfl))) (mvT hZ (hw _ (List.mem_of_getElem? (i := 5) rfl))) (mvT hZ (hw _ (List.mem_of_getElem? (i := 6) rfl))) (by decide) (backOf (W := 1) (rm1 l Z a0 hw [] pv fv a1 h8 n0 Zs8 A8 F_pv_factor_8 F_pv_began_8 F_pv_took_8 g_pv) hZ (hw _ (List.mem_of_getElem? (i := 6) rfl)) (hw _ (List.mem_of_getElem? (i := 3) rfl)) (by decide) (by decide)) (g := (mkF m 129 #[.val (.long fr), .second, .val (.long a1), .second, .val (.long tr), .second, .val (.long b1), .second, .val (.long er), .second, .val (.int fg), .val (.long fv), .second, .val (.long tv), .second, .val (.long ev), .second, .val (.int (1 : Int32)), .val (.long b1), .second, .unset, .unset] [(.long a1), (.long fv), (.ref pv), (.ref pv)])) rfl (by rw [hml]; rfl) (Steps.refl _) (a := pv) (argsL := [(.long fv), (.long a1)]) (rest := [(.ref pv)]) (lenOf pd_0_1 rfl) rfl (by show 2 * 0 + _ ≤ _; exact Nat.le_of_eq rfl) (hb hby at_129) (fun _ _ => ⟨rfl, e8, (by decide : 1 + 0 ≤ _), (by decide : 3 + 0 ≤ _)⟩)
        dsimp only [Pt.U, Pt.locs, Pt.cells, Pt.slots] at X9 l9 y9 z9 st9 hQ9
        subst l9 y9 z9
        obtain ⟨rfl, N9q, K9, g9_0, g9_1, g9_2, g9_3⟩ := hQ9
        have N9 := Fr.app N1 N9q
        have E_pv_9 := A8.keep K9
        have Zs9 : n0 ≤ T9.heap.size := Nat.le_trans Zs8 K9.1
        refine own_st (fun tgt k => st9.trans k) ?_
        show own_Go p e below _ (T9.setTop (mkF m 132 #[.val (.long fr), .second, .val (.long a1), .second, .val (.long tr), .second, .val (.long b1), .second, .val (.long er), .second, .val (.int fg), .val (.long fv), .second, .val (.long tv), .second, .val (.long ev), .second, .val (.int (1 : Int32)), .val (.long b1), .second, .unset, .unset] [(.ref pv)]))
        refine own_st (V := T9.setTop (mkF m 140 #[.val (.long fr), .second, .val (.long a1), .second, .val (.long tr), .second, .val (.long b1), .second, .val (.long er), .second, .val (.int fg), .val (.long fv), .second, .val (.long tv), .second, .val (.long ev), .second, .val (.int (1 : Int32)), .val (.long b1), .second, .val (.ref pv), .unset] [(.long (a1 + tv)), (.ref pv)])) (fun tgt k => ?_) ?_
        · show Steps p.tables e below (T9.setTop (mkF m 132 #[.val (.long fr), .second, .val (.long a1), .second, .val (.long tr), .second, .val (.long b1), .second, .val (.long er), .second, .val (.int fg), .val (.long fv), .second, .val (.long tv), .second, .val (.long ev), .second, .val (.int (1 : Int32)), .val (.long b1), .second, .unset, .unset] [(.ref pv)])) tgt
          refine XS.astore X9.here hx rfl (hb hby at_132) rfl rfl (l' := #[.val (.long fr), .second, .val (.long a1), .second, .val (.long tr), .second, .val (.long b1), .second, .val (.long er), .second, .val (.int fg), .val (.long fv), .second, .val (.long tv), .second, .val (.long ev), .second, .val (.int (1 : Int32)), .val (.long b1), .second, .val (.ref pv), .unset]) rfl ?_
          show Steps p.tables e below (T9.setTop (mkF m 134 #[.val (.long fr), .second, .val (.long a1), .second, .val (.long tr), .second, .val (.long b1), .second, .val (.long er), .second, .val (.int fg), .val (.long fv), .second, .val (.long tv), .second, .val (.long ev), .second, .val (.int (1 : Int32)), .val (.long b1), .second, .val (.ref pv), .unset] [])) tgt
          refine XS.aload X9.here hx rfl (hb hby at_134) rfl rfl ?_
          show Steps p.tables e below (T9.setTop (mkF m 136 #[.val (.long fr), .second, .val (.long a1), .second, .val (.long tr), .second, .val (.long b1), .second, .val (.long er), .second, .val (.int fg), .val (.long fv), .second, .val (.long tv), .second, .val (.long ev), .second, .val (.int (1 : Int32)), .val (.long b1), .second, .val (.ref pv), .unset] [(.ref pv)])) tgt
          refine XS.lloadN X9.here hx rfl (hb hby at_136) rfl ?_
          show Steps p.tables e below (T9.setTop (mkF m 137 #[.val (.long fr), .second, .val (.long a1), .second, .val (.long tr), .second, .val (.long b1), .second, .val (.long er), .second, .val (.int fg), .val (.long fv), .second, .val (.long tv), .second, .val (.long ev), .second, .val (.int (1 : Int32)), .val (.long b1), .second, .val (.ref pv), .unset] [(.long a1), (.ref pv)])) tgt
          refine XS.lload X9.here hx rfl (hb hby at_137) rfl ?_
          show Steps p.tables e below (T9.setTop (mkF m 139 #[.val (.long fr), .second, .val (.long a1), .second, .val (.long tr), .second, .val (.long b1), .second, .val (.long er), .second, .val (.int fg), .val (.long fv), .second, .val (.long tv), .second, .val (.long ev), .second, .val (.int (1 : Int32)), .val (.long b1), .second, .val (.ref pv), .unset] [(.long tv), (.long a1), (.ref pv)])) tgt
          refine XS.ladd X9.here hx rfl (hb hby at_139) rfl ?_
          exact k
        obtain ⟨cq10, kq10, q10a, q10b, q10c⟩ := isOf hZ rfl g9_0
        obtain ⟨_, _, ⟨T10, L10, k10, n10⟩, -, X10, ⟨Lc10, hQ10, l10, y10, z10⟩, st10⟩ := X9.virtualBack hx (y := (⟨"com/example/headwater/headwater/connectors/ListingPace", "ended", "(J)V"⟩ : MethodName)) (z := (⟨"com/example/headwater/headwater/connectors/ListingPace", "ended", "(J)V"⟩ : MethodName)) hown (mvT hZ (hw _ (List.mem_of_getElem? (i := 14) rfl))) (mvT hZ (hw _ (List.mem_of_getElem? (i := 15) rfl))) (notFace_of_selects (args := #[]) (mvT hZ (hw _ (List.mem_of_getElem? (i := 17) rfl)))) (mvT hZ (hw _ (List.mem_of_getElem? (i := 17) rfl))) (mvT hZ (hw _ (List.mem_of_getElem? (i := 16) rfl))) (by decide) (backOf (W := 0) (rm3 l Z a0 hw [] pv (a1 + tv) fv a1 (0 : Int64) T9.heap n0 Zs9 g9_0 g9_1 g9_2 g9_3 g_pv) hZ (hw _ (List.mem_of_getElem? (i := 18) rfl)) (hw _ (List.mem_of_getElem? (i := 3) rfl)) (by decide) (by decide)) q10a q10c (g := (mkF m 140 #[.val (.long fr), .second, .val (.long a1), .second, .val (.long tr), .second, .val (.long b1), .second, .val (.long er), .second, .val (.int fg), .val (.long fv), .second, .val (.long tv), .second, .val (.long ev), .second, .val (.int (1 : Int32)), .val (.long b1), .second, .val (.ref pv), .unset] [(.long (a1 + tv)), (.ref pv)])) rfl (by rw [hml]; rfl) (Steps.refl _) (argsL := [(.long (a1 + tv))]) (rest := []) (lenOf pd_0_2 rfl) rfl (by show 2 * 0 + _ ≤ _; exact Nat.le_of_eq rfl) (hb hby at_140) (fun _ _ => ⟨rfl, rfl, (by decide : 1 + 0 ≤ _), (by decide : 3 + 0 ≤ _)⟩)
        dsimp only [Pt.U, Pt.locs, Pt.cells, Pt.slots] at X10 l10 y10 z10 st10 hQ10
        subst l10 y10 z10
        obtain ⟨rfl, N10q, K10, g10_0, g10_1, g10_2, g10_3⟩ := hQ10
        have N10 := Fr.app N9 N10q
        have E_pv_10 := g9_0.keep K10
        have Zs10 : n0 ≤ T10.heap.size := Nat.le_trans Zs9 K10.1
        refine own_st (fun tgt k => st10.trans k) ?_
        show own_Go p e below _ (T10.setTop (mkF m 143 #[.val (.long fr), .second, .val (.long a1), .second, .val (.long tr), .second, .val (.long b1), .second, .val (.long er), .second, .val (.int fg), .val (.long fv), .second, .val (.long tv), .second, .val (.long ev), .second, .val (.int (1 : Int32)), .val (.long b1), .second, .val (.ref pv), .unset] []))
        refine own_st (V := T10.setTop (mkF m 152 #[.val (.long fr), .second, .val (.long a1), .second, .val (.long tr), .second, .val (.long b1), .second, .val (.long er), .second, .val (.int fg), .val (.long fv), .second, .val (.long tv), .second, .val (.long ev), .second, .val (.int (1 : Int32)), .val (.long b1), .second, .val (.ref pv), .unset] [(.long b1), (.ref pv)])) (fun tgt k => ?_) ?_
        · show Steps p.tables e below (T10.setTop (mkF m 143 #[.val (.long fr), .second, .val (.long a1), .second, .val (.long tr), .second, .val (.long b1), .second, .val (.long er), .second, .val (.int fg), .val (.long fv), .second, .val (.long tv), .second, .val (.long ev), .second, .val (.int (1 : Int32)), .val (.long b1), .second, .val (.ref pv), .unset] [])) tgt
          refine XS.iload X10.here hx rfl (hb hby at_143) rfl ?_
          show Steps p.tables e below (T10.setTop (mkF m 145 #[.val (.long fr), .second, .val (.long a1), .second, .val (.long tr), .second, .val (.long b1), .second, .val (.long er), .second, .val (.int fg), .val (.long fv), .second, .val (.long tv), .second, .val (.long ev), .second, .val (.int (1 : Int32)), .val (.long b1), .second, .val (.ref pv), .unset] [(.int (1 : Int32))])) tgt
          refine XS.ifNo X10.here hx rfl (hb hby at_145) rfl ((if0 _ _).trans (feq (by decide : ¬ ((1 : Int32) = (0 : Int32)))).1) ?_
          show Steps p.tables e below (T10.setTop (mkF m 148 #[.val (.long fr), .second, .val (.long a1), .second, .val (.long tr), .second, .val (.long b1), .second, .val (.long er), .second, .val (.int fg), .val (.long fv), .second, .val (.long tv), .second, .val (.long ev), .second, .val (.int (1 : Int32)), .val (.long b1), .second, .val (.ref pv), .unset] [])) tgt
          refine XS.aload X10.here hx rfl (hb hby at_148) rfl rfl ?_
          show Steps p.tables e below (T10.setTop (mkF m 150 #[.val (.long fr), .second, .val (.long a1), .second, .val (.long tr), .second, .val (.long b1), .second, .val (.long er), .second, .val (.int fg), .val (.long fv), .second, .val (.long tv), .second, .val (.long ev), .second, .val (.int (1 : Int32)), .val (.long b1), .second, .val (.ref pv), .unset] [(.ref pv)])) tgt
          refine XS.lload X10.here hx rfl (hb hby at_150) rfl ?_
          exact k
        obtain ⟨cq11, kq11, q11a, q11b, q11c⟩ := isOf hZ rfl g10_0
        obtain ⟨_, _, ⟨T11, L11, k11, n11⟩, -, X11, ⟨Lc11, hQ11, l11, y11, z11⟩, st11⟩ := X10.virtualBack hx (y := (⟨"com/example/headwater/headwater/connectors/ListingPace", "began", "(J)V"⟩ : MethodName)) (z := (⟨"com/example/headwater/headwater/connectors/ListingPace", "began", "(J)V"⟩ : MethodName)) hown (mvT hZ (hw _ (List.mem_of_getElem? (i := 37) rfl))) (mvT hZ (hw _ (List.mem_of_getElem? (i := 38) rfl))) (notFace_of_selects (args := #[]) (mvT hZ (hw _ (List.mem_of_getElem? (i := 40) rfl)))) (mvT hZ (hw _ (List.mem_of_getElem? (i := 40) rfl))) (mvT hZ (hw _ (List.mem_of_getElem? (i := 39) rfl))) (by decide) (backOf (W := 0) (rm7 l Z a0 hw [] pv b1 fv a1 ((a1 + tv) - a1) T10.heap n0 Zs10 g10_0 g10_1 g10_2 g10_3 g_pv) hZ (hw _ (List.mem_of_getElem? (i := 41) rfl)) (hw _ (List.mem_of_getElem? (i := 3) rfl)) (by decide) (by decide)) q11a q11c (g := (mkF m 152 #[.val (.long fr), .second, .val (.long a1), .second, .val (.long tr), .second, .val (.long b1), .second, .val (.long er), .second, .val (.int fg), .val (.long fv), .second, .val (.long tv), .second, .val (.long ev), .second, .val (.int (1 : Int32)), .val (.long b1), .second, .val (.ref pv), .unset] [(.long b1), (.ref pv)])) rfl (by rw [hml]; rfl) (Steps.refl _) (argsL := [(.long b1)]) (rest := []) (lenOf pd_0_2 rfl) rfl (by show 2 * 0 + _ ≤ _; exact Nat.le_of_eq rfl) (hb hby at_152) (fun _ _ => ⟨rfl, rfl, (by decide : 1 + 0 ≤ _), (by decide : 3 + 0 ≤ _)⟩)
        dsimp only [Pt.U, Pt.locs, Pt.cells, Pt.slots] at X11 l11 y11 z11 st11 hQ11
        subst l11 y11 z11
        obtain ⟨rfl, N11q, K11, g11_0, g11_1, g11_2, g11_3⟩ := hQ11
        have N11 := Fr.app N10 N11q
        have E_pv_11 := g10_0.keep K11
        have Zs11 : n0 ≤ T11.heap.size := Nat.le_trans Zs10 K11.1
        refine own_st (fun tgt k => st11.trans k) ?_
        show own_Go p e below _ (T11.setTop (mkF m 155 #[.val (.long fr), .second, .val (.long a1), .second, .val (.long tr), .second, .val (.long b1), .second, .val (.long er), .second, .val (.int fg), .val (.long fv), .second, .val (.long tv), .second, .val (.long ev), .second, .val (.int (1 : Int32)), .val (.long b1), .second, .val (.ref pv), .unset] []))
        refine own_st (V := T11.setTop (mkF m 162 #[.val (.long fr), .second, .val (.long a1), .second, .val (.long tr), .second, .val (.long b1), .second, .val (.long er), .second, .val (.int fg), .val (.long fv), .second, .val (.long tv), .second, .val (.long ev), .second, .val (.int (1 : Int32)), .val (.long b1), .second, .val (.ref pv), .unset] [(.long (b1 + ev)), (.ref pv)])) (fun tgt k => ?_) ?_
        · show Steps p.tables e below (T11.setTop (mkF m 155 #[.val (.long fr), .second, .val (.long a1), .second, .val (.long tr), .second, .val (.long b1), .second, .val (.long er), .second, .val (.int fg), .val (.long fv), .second, .val (.long tv), .second, .val (.long ev), .second, .val (.int (1 : Int32)), .val (.long b1), .second, .val (.ref pv), .unset] [])) tgt
          refine XS.aload X11.here hx rfl (hb hby at_155) rfl rfl ?_
          show Steps p.tables e below (T11.setTop (mkF m 157 #[.val (.long fr), .second, .val (.long a1), .second, .val (.long tr), .second, .val (.long b1), .second, .val (.long er), .second, .val (.int fg), .val (.long fv), .second, .val (.long tv), .second, .val (.long ev), .second, .val (.int (1 : Int32)), .val (.long b1), .second, .val (.ref pv), .unset] [(.ref pv)])) tgt
          refine XS.lload X11.here hx rfl (hb hby at_157) rfl ?_
          show Steps p.tables e below (T11.setTop (mkF m 159 #[.val (.long fr), .second, .val (.long a1), .second, .val (.long tr), .second, .val (.long b1), .second, .val (.long er), .second, .val (.int fg), .val (.long fv), .second, .val (.long tv), .second, .val (.long ev), .second, .val (.int (1 : Int32)), .val (.long b1), .second, .val (.ref pv), .unset] [(.long b1), (.ref pv)])) tgt
          refine XS.lload X11.here hx rfl (hb hby at_159) rfl ?_
          show Steps p.tables e below (T11.setTop (mkF m 161 #[.val (.long fr), .second, .val (.long a1), .second, .val (.long tr), .second, .val (.long b1), .second, .val (.long er), .second, .val (.int fg), .val (.long fv), .second, .val (.long tv), .second, .val (.long ev), .second, .val (.int (1 : Int32)), .val (.long b1), .second, .val (.ref pv), .unset] [(.long ev), (.long b1), (.ref pv)])) tgt
          refine XS.ladd X11.here hx rfl (hb hby at_161) rfl ?_
          exact k
        obtain ⟨cq12, kq12, q12a, q12b, q12c⟩ := isOf hZ rfl g11_0
        obtain ⟨_, _, ⟨T12, L12, k12, n12⟩, -, X12, ⟨Lc12, hQ12, l12, y12, z12⟩, st12⟩ := X11.virtualBack hx (y := (⟨"com/example/headwater/headwater/connectors/ListingPace", "allows", "(J)Z"⟩ : MethodName)) (z := (⟨"com/example/headwater/headwater/connectors/ListingPace", "allows", "(J)Z"⟩ : MethodName)) hown (mvT hZ (hw _ (List.mem_of_getElem? (i := 21) rfl))) (mvT hZ (hw _ (List.mem_of_getElem? (i := 22) rfl))) (notFace_of_selects (args := #[]) (mvT hZ (hw _ (List.mem_of_getElem? (i := 24) rfl)))) (mvT hZ (hw _ (List.mem_of_getElem? (i := 24) rfl))) (mvT hZ (hw _ (List.mem_of_getElem? (i := 23) rfl))) (by decide) (backOf (W := 0) (rm4 l Z a0 hw [] pv (b1 + ev) fv b1 ((a1 + tv) - a1) T11.heap n0 Zs11 g11_0 g11_1 g11_2 g11_3 (own_nz64 hf1)) hZ (hw _ (List.mem_of_getElem? (i := 25) rfl)) (hw _ (List.mem_of_getElem? (i := 3) rfl)) (by decide) (by decide)) q12a q12c (g := (mkF m 162 #[.val (.long fr), .second, .val (.long a1), .second, .val (.long tr), .second, .val (.long b1), .second, .val (.long er), .second, .val (.int fg), .val (.long fv), .second, .val (.long tv), .second, .val (.long ev), .second, .val (.int (1 : Int32)), .val (.long b1), .second, .val (.ref pv), .unset] [(.long (b1 + ev)), (.ref pv)])) rfl (by rw [hml]; rfl) (Steps.refl _) (argsL := [(.long (b1 + ev))]) (rest := []) (lenOf pd_0_3 rfl) rfl (by show 2 * 0 + _ ≤ _; exact Nat.le_of_eq rfl) (hb hby at_162) (fun _ _ => ⟨rfl, rfl, (by decide : 1 + 0 ≤ _), (by decide : 3 + 0 ≤ _)⟩)
        dsimp only [Pt.U, Pt.locs, Pt.cells, Pt.slots] at X12 l12 y12 z12 st12 hQ12
        subst l12 y12 z12
        obtain ⟨rfl, N12q, K12⟩ := hQ12
        have N12 := Fr.app N11 N12q
        refine own_st (fun tgt k => st12.trans k) ?_
        show own_Go p e below _ (T12.setTop (mkF m 165 #[.val (.long fr), .second, .val (.long a1), .second, .val (.long tr), .second, .val (.long b1), .second, .val (.long er), .second, .val (.int fg), .val (.long fv), .second, .val (.long tv), .second, .val (.long ev), .second, .val (.int (1 : Int32)), .val (.long b1), .second, .val (.ref pv), .unset] [(.int (own_A fv b1 ((a1 + tv) - a1) (b1 + ev)))]))
        refine own_st (V := T12.setTop (mkF m 175 #[.val (.long fr), .second, .val (.long a1), .second, .val (.long tr), .second, .val (.long b1), .second, .val (.long er), .second, .val (.int fg), .val (.long fv), .second, .val (.long tv), .second, .val (.long ev), .second, .val (.int (1 : Int32)), .val (.long b1), .second, .val (.ref pv), .val (.int (own_A fv b1 ((a1 + tv) - a1) (b1 + ev)))] [(.long ev), (.long tv), (.long fv), (.int (own_A fv b1 ((a1 + tv) - a1) (b1 + ev)))])) (fun tgt k => ?_) ?_
        · show Steps p.tables e below (T12.setTop (mkF m 165 #[.val (.long fr), .second, .val (.long a1), .second, .val (.long tr), .second, .val (.long b1), .second, .val (.long er), .second, .val (.int fg), .val (.long fv), .second, .val (.long tv), .second, .val (.long ev), .second, .val (.int (1 : Int32)), .val (.long b1), .second, .val (.ref pv), .unset] [(.int (own_A fv b1 ((a1 + tv) - a1) (b1 + ev)))])) tgt
          refine XS.istore X12.here hx rfl (hb hby at_165) rfl (l' := #[.val (.long fr), .second, .val (.long a1), .second, .val (.long tr), .second, .val (.long b1), .second, .val (.long er), .second, .val (.int fg), .val (.long fv), .second, .val (.long tv), .second, .val (.long ev), .second, .val (.int (1 : Int32)), .val (.long b1), .second, .val (.ref pv), .val (.int (own_A fv b1 ((a1 + tv) - a1) (b1 + ev)))]) rfl ?_
          show Steps p.tables e below (T12.setTop (mkF m 167 #[.val (.long fr), .second, .val (.long a1), .second, .val (.long tr), .second, .val (.long b1), .second, .val (.long er), .second, .val (.int fg), .val (.long fv), .second, .val (.long tv), .second, .val (.long ev), .second, .val (.int (1 : Int32)), .val (.long b1), .second, .val (.ref pv), .val (.int (own_A fv b1 ((a1 + tv) - a1) (b1 + ev)))] [])) tgt
          refine XS.iload X12.here hx rfl (hb hby at_167) rfl ?_
          show Steps p.tables e below (T12.setTop (mkF m 169 #[.val (.long fr), .second, .val (.long a1), .second, .val (.long tr), .second, .val (.long b1), .second, .val (.long er), .second, .val (.int fg), .val (.long fv), .second, .val (.long tv), .second, .val (.long ev), .second, .val (.int (1 : Int32)), .val (.long b1), .second, .val (.ref pv), .val (.int (own_A fv b1 ((a1 + tv) - a1) (b1 + ev)))] [(.int (own_A fv b1 ((a1 + tv) - a1) (b1 + ev)))])) tgt
          refine XS.lload X12.here hx rfl (hb hby at_169) rfl ?_
          show Steps p.tables e below (T12.setTop (mkF m 171 #[.val (.long fr), .second, .val (.long a1), .second, .val (.long tr), .second, .val (.long b1), .second, .val (.long er), .second, .val (.int fg), .val (.long fv), .second, .val (.long tv), .second, .val (.long ev), .second, .val (.int (1 : Int32)), .val (.long b1), .second, .val (.ref pv), .val (.int (own_A fv b1 ((a1 + tv) - a1) (b1 + ev)))] [(.long fv), (.int (own_A fv b1 ((a1 + tv) - a1) (b1 + ev)))])) tgt
          refine XS.lload X12.here hx rfl (hb hby at_171) rfl ?_
          show Steps p.tables e below (T12.setTop (mkF m 173 #[.val (.long fr), .second, .val (.long a1), .second, .val (.long tr), .second, .val (.long b1), .second, .val (.long er), .second, .val (.int fg), .val (.long fv), .second, .val (.long tv), .second, .val (.long ev), .second, .val (.int (1 : Int32)), .val (.long b1), .second, .val (.ref pv), .val (.int (own_A fv b1 ((a1 + tv) - a1) (b1 + ev)))] [(.long tv), (.long fv), (.int (own_A fv b1 ((a1 + tv) - a1) (b1 + ev)))])) tgt
          refine XS.lload X12.here hx rfl (hb hby at_173) rfl ?_
          exact k
        obtain ⟨_, _, ⟨T13, L13, k13, n13⟩, -, X13, ⟨Lc13, hQ13, l13, y13, z13⟩, st13⟩ := Jvm.LawKit.callS X12 hx (y := (⟨"com/example/headwater/headwater/connectors/ListingPaceAllowsPinLaw", "expected", "(JJJ)Z"⟩ : MethodName)) hown (mvT hZ (hw _ (List.mem_of_getElem? (i := 26) rfl))) (mvT hZ (hw _ (List.mem_of_getElem? (i := 27) rfl))) (mvT hZ (hw _ (List.mem_of_getElem? (i := 28) rfl))) (mvT hZ (hw _ (List.mem_of_getElem? (i := 29) rfl))) (by decide) (backOf (W := 1) (rm5 l Z a0 hw [] fv tv ev T11.heap n0 Zs11 ) hZ (hw _ (List.mem_of_getElem? (i := 29) rfl)) (hw _ (List.mem_of_getElem? (i := 28) rfl)) (by decide) (by decide)) (g := (mkF m 175 #[.val (.long fr), .second, .val (.long a1), .second, .val (.long tr), .second, .val (.long b1), .second, .val (.long er), .second, .val (.int fg), .val (.long fv), .second, .val (.long tv), .second, .val (.long ev), .second, .val (.int (1 : Int32)), .val (.long b1), .second, .val (.ref pv), .val (.int (own_A fv b1 ((a1 + tv) - a1) (b1 + ev)))] [(.long ev), (.long tv), (.long fv), (.int (own_A fv b1 ((a1 + tv) - a1) (b1 + ev)))])) rfl (by rw [hml]; rfl) (argsL := [(.long fv), (.long tv), (.long ev)]) (rest := [(.int (own_A fv b1 ((a1 + tv) - a1) (b1 + ev)))]) (lenOf pd_0_4 rfl) rfl (by show 2 * 0 + _ ≤ _; exact Nat.le_of_eq rfl) (hb hby at_175) (fun _ _ => ⟨rfl, K12, (by decide : 1 + 0 ≤ _), (by decide : 3 + 0 ≤ _)⟩)
        dsimp only [Pt.U, Pt.locs, Pt.cells, Pt.slots] at X13 l13 y13 z13 st13 hQ13
        subst l13 y13 z13
        obtain ⟨rfl, N13q, K13⟩ := hQ13
        have N13 := Fr.app N12 N13q
        refine own_st st13 ?_
        show own_Go p e below _ (T13.setTop (mkF m 178 #[.val (.long fr), .second, .val (.long a1), .second, .val (.long tr), .second, .val (.long b1), .second, .val (.long er), .second, .val (.int fg), .val (.long fv), .second, .val (.long tv), .second, .val (.long ev), .second, .val (.int (1 : Int32)), .val (.long b1), .second, .val (.ref pv), .val (.int (own_A fv b1 ((a1 + tv) - a1) (b1 + ev)))] [(.int (own_E fv tv ev)), (.int (own_A fv b1 ((a1 + tv) - a1) (b1 + ev)))]))
        refine own_st (V := T13.setTop (mkF m 186 #[.val (.long fr), .second, .val (.long a1), .second, .val (.long tr), .second, .val (.long b1), .second, .val (.long er), .second, .val (.int fg), .val (.long fv), .second, .val (.long tv), .second, .val (.long ev), .second, .val (.int (1 : Int32)), .val (.long b1), .second, .val (.ref pv), .val (.int (own_A fv b1 ((a1 + tv) - a1) (b1 + ev)))] [(.int (1 : Int32))])) (fun tgt k => ?_) ?_
        · show Steps p.tables e below (T13.setTop (mkF m 178 #[.val (.long fr), .second, .val (.long a1), .second, .val (.long tr), .second, .val (.long b1), .second, .val (.long er), .second, .val (.int fg), .val (.long fv), .second, .val (.long tv), .second, .val (.long ev), .second, .val (.int (1 : Int32)), .val (.long b1), .second, .val (.ref pv), .val (.int (own_A fv b1 ((a1 + tv) - a1) (b1 + ev)))] [(.int (own_E fv tv ev)), (.int (own_A fv b1 ((a1 + tv) - a1) (b1 + ev)))])) tgt
          refine XS.icmpNo X13.here hx rfl (hb hby at_178) rfl (teq (own_law _ _ _ _ _ hf1 ht0 he0)).2 ?_
          show Steps p.tables e below (T13.setTop (mkF m 181 #[.val (.long fr), .second, .val (.long a1), .second, .val (.long tr), .second, .val (.long b1), .second, .val (.long er), .second, .val (.int fg), .val (.long fv), .second, .val (.long tv), .second, .val (.long ev), .second, .val (.int (1 : Int32)), .val (.long b1), .second, .val (.ref pv), .val (.int (own_A fv b1 ((a1 + tv) - a1) (b1 + ev)))] [])) tgt
          refine XS.iconst X13.here hx rfl (hb hby at_181) ?_
          show Steps p.tables e below (T13.setTop (mkF m 182 #[.val (.long fr), .second, .val (.long a1), .second, .val (.long tr), .second, .val (.long b1), .second, .val (.long er), .second, .val (.int fg), .val (.long fv), .second, .val (.long tv), .second, .val (.long ev), .second, .val (.int (1 : Int32)), .val (.long b1), .second, .val (.ref pv), .val (.int (own_A fv b1 ((a1 + tv) - a1) (b1 + ev)))] [(.int (1 : Int32))])) tgt
          refine XS.goto X13.here hx rfl (pc0 := 182) (pc' := 186) rfl (hb hby at_182) (by decide) (by decide) ?_
          exact k
        refine own_retN X13 hx hlk (t := .boolean) (z' := (1 : Int32)) Bd.returns (by simp) rfl (hb hby at_186) ?_ (by decide) (by decide)
        show Q0 Z fr a1 tr b1 er fg h0 n0 (some (.int (1 : Int32))) T13.heap _
        rw [K13]
        exact ⟨rfl, N13⟩
    · skip
      refine own_st (V := s₁.setTop (mkF m 65 #[.val (.long fr), .second, .val (.long a1), .second, .val (.long tr), .second, .val (.long b1), .second, .val (.long er), .second, .val (.int fg), .val (.long (9223372036854775807 : Int64)), .second, .unset, .unset, .unset, .unset, .unset, .unset, .unset, .unset, .unset] [])) (fun tgt k => ?_) ?_
      · show Steps p.tables e below (s₁.setTop (mkF m 57 #[.val (.long fr), .second, .val (.long a1), .second, .val (.long tr), .second, .val (.long b1), .second, .val (.long er), .second, .val (.int fg), .unset, .unset, .unset, .unset, .unset, .unset, .unset, .unset, .unset, .unset, .unset] [(.int (fg &&& (2 : Int32)))])) tgt
        refine XS.ifNo X0.here hx rfl (hb hby at_57) rfl ((if0 _ _).trans (feq hc57).1) ?_
        show Steps p.tables e below (s₁.setTop (mkF m 60 #[.val (.long fr), .second, .val (.long a1), .second, .val (.long tr), .second, .val (.long b1), .second, .val (.long er), .second, .val (.int fg), .unset, .unset, .unset, .unset, .unset, .unset, .unset, .unset, .unset, .unset, .unset] [])) tgt
        refine X0.ldc2Long hx hown (mvT hZ (hw _ (List.mem_of_getElem? (i := 0) rfl))) (g := (mkF m 60 #[.val (.long fr), .second, .val (.long a1), .second, .val (.long tr), .second, .val (.long b1), .second, .val (.long er), .second, .val (.int fg), .unset, .unset, .unset, .unset, .unset, .unset, .unset, .unset, .unset, .unset, .unset] [])) rfl (hb hby at_60) _ ?_
        show Steps p.tables e below (s₁.setTop (mkF m 63 #[.val (.long fr), .second, .val (.long a1), .second, .val (.long tr), .second, .val (.long b1), .second, .val (.long er), .second, .val (.int fg), .unset, .unset, .unset, .unset, .unset, .unset, .unset, .unset, .unset, .unset, .unset] [(.long (9223372036854775807 : Int64))])) tgt
        refine XS.lstore X0.here hx rfl (hb hby at_63) rfl (l' := #[.val (.long fr), .second, .val (.long a1), .second, .val (.long tr), .second, .val (.long b1), .second, .val (.long er), .second, .val (.int fg), .val (.long (9223372036854775807 : Int64)), .second, .unset, .unset, .unset, .unset, .unset, .unset, .unset, .unset, .unset]) rfl ?_
        exact k
      obtain ⟨fv, hfv⟩ : ∃ z : Int64, z = (9223372036854775807 : Int64) := ⟨_, rfl⟩
      rw [← hfv]
      have hf1 : 1 ≤ fv.toInt := by rw [hfv]; decide
      refine own_st (V := s₁.setTop (mkF m 87 #[.val (.long fr), .second, .val (.long a1), .second, .val (.long tr), .second, .val (.long b1), .second, .val (.long er), .second, .val (.int fg), .val (.long fv), .second, .val (.long (tr &&& (9223372036854775807 : Int64))), .second, .unset, .unset, .unset, .unset, .unset, .unset, .unset] [])) (fun tgt k => ?_) ?_
      · show Steps p.tables e below (s₁.setTop (mkF m 65 #[.val (.long fr), .second, .val (.long a1), .second, .val (.long tr), .second, .val (.long b1), .second, .val (.long er), .second, .val (.int fg), .val (.long fv), .second, .unset, .unset, .unset, .unset, .unset, .unset, .unset, .unset, .unset] [])) tgt
        refine XS.goto X0.here hx rfl (pc0 := 65) (pc' := 79) rfl (hb hby at_65) (by decide) (by decide) ?_
        show Steps p.tables e below (s₁.setTop (mkF m 79 #[.val (.long fr), .second, .val (.long a1), .second, .val (.long tr), .second, .val (.long b1), .second, .val (.long er), .second, .val (.int fg), .val (.long fv), .second, .unset, .unset, .unset, .unset, .unset, .unset, .unset, .unset, .unset] [])) tgt
        refine XS.lload X0.here hx rfl (hb hby at_79) rfl ?_
        show Steps p.tables e below (s₁.setTop (mkF m 81 #[.val (.long fr), .second, .val (.long a1), .second, .val (.long tr), .second, .val (.long b1), .second, .val (.long er), .second, .val (.int fg), .val (.long fv), .second, .unset, .unset, .unset, .unset, .unset, .unset, .unset, .unset, .unset] [(.long tr)])) tgt
        refine X0.ldc2Long hx hown (mvT hZ (hw _ (List.mem_of_getElem? (i := 0) rfl))) (g := (mkF m 81 #[.val (.long fr), .second, .val (.long a1), .second, .val (.long tr), .second, .val (.long b1), .second, .val (.long er), .second, .val (.int fg), .val (.long fv), .second, .unset, .unset, .unset, .unset, .unset, .unset, .unset, .unset, .unset] [(.long tr)])) rfl (hb hby at_81) _ ?_
        show Steps p.tables e below (s₁.setTop (mkF m 84 #[.val (.long fr), .second, .val (.long a1), .second, .val (.long tr), .second, .val (.long b1), .second, .val (.long er), .second, .val (.int fg), .val (.long fv), .second, .unset, .unset, .unset, .unset, .unset, .unset, .unset, .unset, .unset] [(.long (9223372036854775807 : Int64)), (.long tr)])) tgt
        refine XS.land X0.here hx rfl (hb hby at_84) rfl ?_
        show Steps p.tables e below (s₁.setTop (mkF m 85 #[.val (.long fr), .second, .val (.long a1), .second, .val (.long tr), .second, .val (.long b1), .second, .val (.long er), .second, .val (.int fg), .val (.long fv), .second, .unset, .unset, .unset, .unset, .unset, .unset, .unset, .unset, .unset] [(.long (tr &&& (9223372036854775807 : Int64)))])) tgt
        refine XS.lstore X0.here hx rfl (hb hby at_85) rfl (l' := #[.val (.long fr), .second, .val (.long a1), .second, .val (.long tr), .second, .val (.long b1), .second, .val (.long er), .second, .val (.int fg), .val (.long fv), .second, .val (.long (tr &&& (9223372036854775807 : Int64))), .second, .unset, .unset, .unset, .unset, .unset, .unset, .unset]) rfl ?_
        exact k
      obtain ⟨tv, htv⟩ : ∃ z : Int64, z = (tr &&& (9223372036854775807 : Int64)) := ⟨_, rfl⟩
      rw [← htv]
      have ht0 : 0 ≤ tv.toInt := by rw [htv]; exact own_pos64 tr
      refine own_st (V := s₁.setTop (mkF m 95 #[.val (.long fr), .second, .val (.long a1), .second, .val (.long tr), .second, .val (.long b1), .second, .val (.long er), .second, .val (.int fg), .val (.long fv), .second, .val (.long tv), .second, .val (.long (er &&& (9223372036854775807 : Int64))), .second, .unset, .unset, .unset, .unset, .unset] [])) (fun tgt k => ?_) ?_
      · show Steps p.tables e below (s₁.setTop (mkF m 87 #[.val (.long fr), .second, .val (.long a1), .second, .val (.long tr), .second, .val (.long b1), .second, .val (.long er), .second, .val (.int fg), .val (.long fv), .second, .val (.long tv), .second, .unset, .unset, .unset, .unset, .unset, .unset, .unset] [])) tgt
        refine XS.lload X0.here hx rfl (hb hby at_87) rfl ?_
        show Steps p.tables e below (s₁.setTop (mkF m 89 #[.val (.long fr), .second, .val (.long a1), .second, .val (.long tr), .second, .val (.long b1), .second, .val (.long er), .second, .val (.int fg), .val (.long fv), .second, .val (.long tv), .second, .unset, .unset, .unset, .unset, .unset, .unset, .unset] [(.long er)])) tgt
        refine X0.ldc2Long hx hown (mvT hZ (hw _ (List.mem_of_getElem? (i := 0) rfl))) (g := (mkF m 89 #[.val (.long fr), .second, .val (.long a1), .second, .val (.long tr), .second, .val (.long b1), .second, .val (.long er), .second, .val (.int fg), .val (.long fv), .second, .val (.long tv), .second, .unset, .unset, .unset, .unset, .unset, .unset, .unset] [(.long er)])) rfl (hb hby at_89) _ ?_
        show Steps p.tables e below (s₁.setTop (mkF m 92 #[.val (.long fr), .second, .val (.long a1), .second, .val (.long tr), .second, .val (.long b1), .second, .val (.long er), .second, .val (.int fg), .val (.long fv), .second, .val (.long tv), .second, .unset, .unset, .unset, .unset, .unset, .unset, .unset] [(.long (9223372036854775807 : Int64)), (.long er)])) tgt
        refine XS.land X0.here hx rfl (hb hby at_92) rfl ?_
        show Steps p.tables e below (s₁.setTop (mkF m 93 #[.val (.long fr), .second, .val (.long a1), .second, .val (.long tr), .second, .val (.long b1), .second, .val (.long er), .second, .val (.int fg), .val (.long fv), .second, .val (.long tv), .second, .unset, .unset, .unset, .unset, .unset, .unset, .unset] [(.long (er &&& (9223372036854775807 : Int64)))])) tgt
        refine XS.lstore X0.here hx rfl (hb hby at_93) rfl (l' := #[.val (.long fr), .second, .val (.long a1), .second, .val (.long tr), .second, .val (.long b1), .second, .val (.long er), .second, .val (.int fg), .val (.long fv), .second, .val (.long tv), .second, .val (.long (er &&& (9223372036854775807 : Int64))), .second, .unset, .unset, .unset, .unset, .unset]) rfl ?_
        exact k
      obtain ⟨ev, hev⟩ : ∃ z : Int64, z = (er &&& (9223372036854775807 : Int64)) := ⟨_, rfl⟩
      rw [← hev]
      have he0 : 0 ≤ ev.toInt := by rw [hev]; exact own_pos64 er
      refine own_st (V := s₁.setTop (mkF m 99 #[.val (.long fr), .second, .val (.long a1), .second, .val (.long tr), .second, .val (.long b1), .second, .val (.long er), .second, .val (.int fg), .val (.long fv), .second, .val (.long tv), .second, .val (.long ev), .second, .unset, .unset, .unset, .unset, .unset] [(.int (fg &&& (1 : Int32)))])) (fun tgt k => ?_) ?_
      · show Steps p.tables e below (s₁.setTop (mkF m 95 #[.val (.long fr), .second, .val (.long a1), .second, .val (.long tr), .second, .val (.long b1), .second, .val (.long er), .second, .val (.int fg), .val (.long fv), .second, .val (.long tv), .second, .val (.long ev), .second, .unset, .unset, .unset, .unset, .unset] [])) tgt
        refine XS.iload X0.here hx rfl (hb hby at_95) rfl ?_
        show Steps p.tables e below (s₁.setTop (mkF m 97 #[.val (.long fr), .second, .val (.long a1), .second, .val (.long tr), .second, .val (.long b1), .second, .val (.long er), .second, .val (.int fg), .val (.long fv), .second, .val (.long tv), .second, .val (.long ev), .second, .unset, .unset, .unset, .unset, .unset] [(.int fg)])) tgt
        refine XS.iconst X0.here hx rfl (hb hby at_97) ?_
        show Steps p.tables e below (s₁.setTop (mkF m 98 #[.val (.long fr), .second, .val (.long a1), .second, .val (.long tr), .second, .val (.long b1), .second, .val (.long er), .second, .val (.int fg), .val (.long fv), .second, .val (.long tv), .second, .val (.long ev), .second, .unset, .unset, .unset, .unset, .unset] [(.int (1 : Int32)), (.int fg)])) tgt
        refine XS.iand X0.here hx rfl (hb hby at_98) rfl ?_
        exact k
      by_cases hc99 : (fg &&& (1 : Int32)) = (0 : Int32)
      · skip
        refine own_st (V := s₁.setTop (mkF m 122 #[.val (.long fr), .second, .val (.long a1), .second, .val (.long tr), .second, .val (.long b1), .second, .val (.long er), .second, .val (.int fg), .val (.long fv), .second, .val (.long tv), .second, .val (.long ev), .second, .val (.int (0 : Int32)), .val (.long a1), .second, .unset, .unset] [])) (fun tgt k => ?_) ?_
        · show Steps p.tables e below (s₁.setTop (mkF m 99 #[.val (.long fr), .second, .val (.long a1), .second, .val (.long tr), .second, .val (.long b1), .second, .val (.long er), .second, .val (.int fg), .val (.long fv), .second, .val (.long tv), .second, .val (.long ev), .second, .unset, .unset, .unset, .unset, .unset] [(.int (fg &&& (1 : Int32)))])) tgt
          refine XS.ifYes X0.here hx rfl (pc0 := 99) (pc' := 106) rfl (hb hby at_99) rfl ((if0 _ _).trans (teq hc99).1) (by decide) (by decide) ?_
          show Steps p.tables e below (s₁.setTop (mkF m 106 #[.val (.long fr), .second, .val (.long a1), .second, .val (.long tr), .second, .val (.long b1), .second, .val (.long er), .second, .val (.int fg), .val (.long fv), .second, .val (.long tv), .second, .val (.long ev), .second, .unset, .unset, .unset, .unset, .unset] [])) tgt
          refine XS.iconst X0.here hx rfl (hb hby at_106) ?_
          show Steps p.tables e below (s₁.setTop (mkF m 107 #[.val (.long fr), .second, .val (.long a1), .second, .val (.long tr), .second, .val (.long b1), .second, .val (.long er), .second, .val (.int fg), .val (.long fv), .second, .val (.long tv), .second, .val (.long ev), .second, .unset, .unset, .unset, .unset, .unset] [(.int (0 : Int32))])) tgt
          refine XS.istore X0.here hx rfl (hb hby at_107) rfl (l' := #[.val (.long fr), .second, .val (.long a1), .second, .val (.long tr), .second, .val (.long b1), .second, .val (.long er), .second, .val (.int fg), .val (.long fv), .second, .val (.long tv), .second, .val (.long ev), .second, .val (.int (0 : Int32)), .unset, .unset, .unset, .unset]) rfl ?_
          show Steps p.tables e below (s₁.setTop (mkF m 109 #[.val (.long fr), .second, .val (.long a1), .second, .val (.long tr), .second, .val (.long b1), .second, .val (.long er), .second, .val (.int fg), .val (.long fv), .second, .val (.long tv), .second, .val (.long ev), .second, .val (.int (0 : Int32)), .unset, .unset, .unset, .unset] [])) tgt
          refine XS.iload X0.here hx rfl (hb hby at_109) rfl ?_
          show Steps p.tables e below (s₁.setTop (mkF m 111 #[.val (.long fr), .second, .val (.long a1), .second, .val (.long tr), .second, .val (.long b1), .second, .val (.long er), .second, .val (.int fg), .val (.long fv), .second, .val (.long tv), .second, .val (.long ev), .second, .val (.int (0 : Int32)), .unset, .unset, .unset, .unset] [(.int (0 : Int32))])) tgt
          refine XS.ifYes X0.here hx rfl (pc0 := 111) (pc' := 119) rfl (hb hby at_111) rfl ((if0 _ _).trans (teq (by decide : (0 : Int32) = (0 : Int32))).1) (by decide) (by decide) ?_
          show Steps p.tables e below (s₁.setTop (mkF m 119 #[.val (.long fr), .second, .val (.long a1), .second, .val (.long tr), .second, .val (.long b1), .second, .val (.long er), .second, .val (.int fg), .val (.long fv), .second, .val (.long tv), .second, .val (.long ev), .second, .val (.int (0 : Int32)), .unset, .unset, .unset, .unset] [])) tgt
          refine XS.lloadN X0.here hx rfl (hb hby at_119) rfl ?_
          show Steps p.tables e below (s₁.setTop (mkF m 120 #[.val (.long fr), .second, .val (.long a1), .second, .val (.long tr), .second, .val (.long b1), .second, .val (.long er), .second, .val (.int fg), .val (.long fv), .second, .val (.long tv), .second, .val (.long ev), .second, .val (.int (0 : Int32)), .unset, .unset, .unset, .unset] [(.long a1)])) tgt
          refine XS.lstore X0.here hx rfl (hb hby at_120) rfl (l' := #[.val (.long fr), .second, .val (.long a1), .second, .val (.long tr), .second, .val (.long b1), .second, .val (.long er), .second, .val (.int fg), .val (.long fv), .second, .val (.long tv), .second, .val (.long ev), .second, .val (.int (0 : Int32)), .val (.long a1), .second, .unset, .unset]) rfl ?_
          exact k
        obtain ⟨T15, h15, X15, e15, E15, A15, D15, -, st15⟩ := newO X0 hx hZ hown (hw _ (List.mem_of_getElem? (i := 1) rfl)) (hw _ (List.mem_of_getElem? (i := 2) rfl)) (hw _ (List.mem_of_getElem? (i := 3) rfl)) e0 (g := (mkF m 122 #[.val (.long fr), .second, .val (.long a1), .second, .val (.long tr), .second, .val (.long b1), .second, .val (.long er), .second, .val (.int fg), .val (.long fv), .second, .val (.long tv), .second, .val (.long ev), .second, .val (.int (0 : Int32)), .val (.long a1), .second, .unset, .unset] [])) rfl (hb hby at_122) (by decide) (by decide)
        obtain ⟨pv, g15⟩ : ∃ z, z = h0.size := ⟨_, rfl⟩
        rw [← g15] at A15 D15 st15
        have g_pv : n0 ≤ pv := Nat.le_trans Z0 (Nat.le_of_eq g15.symm)
        have Zs15 : n0 ≤ h15.size := Nat.le_trans Z0 E15.1
        have F_pv_factor_15 : Fld Z h15 pv "com/example/headwater/headwater/connectors/ListingPace" "factor" "J" (.long (0 : Int64)) := D15 (Or.inr (hw _ (List.mem_of_getElem? (i := 11) rfl))) (ty := .long) (by decide)
        have F_pv_began_15 : Fld Z h15 pv "com/example/headwater/headwater/connectors/ListingPace" "began" "J" (.long (0 : Int64)) := D15 (Or.inl (hw _ (List.mem_of_getElem? (i := 13) rfl))) (ty := .long) (by decide)
        have F_pv_took_15 : Fld Z h15 pv "com/example/headwater/headwater/connectors/ListingPace" "took" "J" (.long (0 : Int64)) := D15 (Or.inl (hw _ (List.mem_of_getElem? (i := 20) rfl))) (ty := .long) (by decide)
        refine own_st st15 ?_
        show own_Go p e below _ (T15.setTop (mkF m 125 #[.val (.long fr), .second, .val (.long a1), .second, .val (.long tr), .second, .val (.long b1), .second, .val (.long er), .second, .val (.int fg), .val (.long fv), .second, .val (.long tv), .second, .val (.long ev), .second, .val (.int (0 : Int32)), .val (.long a1), .second, .unset, .unset] [(.ref pv)]))
        refine own_st (V := T15.setTop (mkF m 129 #[.val (.long fr), .second, .val (.long a1), .second, .val (.long tr), .second, .val (.long b1), .second, .val (.long er), .second, .val (.int fg), .val (.long fv), .second, .val (.long tv), .second, .val (.long ev), .second, .val (.int (0 : Int32)), .val (.long a1), .second, .unset, .unset] [(.long a1), (.long fv), (.ref pv), (.ref pv)])) (fun tgt k => ?_) ?_
        · show Steps p.tables e below (T15.setTop (mkF m 125 #[.val (.long fr), .second, .val (.long a1), .second, .val (.long tr), .second, .val (.long b1), .second, .val (.long er), .second, .val (.int fg), .val (.long fv), .second, .val (.long tv), .second, .val (.long ev), .second, .val (.int (0 : Int32)), .val (.long a1), .second, .unset, .unset] [(.ref pv)])) tgt
          refine XS.dup X15.here hx rfl (hb hby at_125) rfl rfl ?_
          show Steps p.tables e below (T15.setTop (mkF m 126 #[.val (.long fr), .second, .val (.long a1), .second, .val (.long tr), .second, .val (.long b1), .second, .val (.long er), .second, .val (.int fg), .val (.long fv), .second, .val (.long tv), .second, .val (.long ev), .second, .val (.int (0 : Int32)), .val (.long a1), .second, .unset, .unset] [(.ref pv), (.ref pv)])) tgt
          refine XS.lload X15.here hx rfl (hb hby at_126) rfl ?_
          show Steps p.tables e below (T15.setTop (mkF m 128 #[.val (.long fr), .second, .val (.long a1), .second, .val (.long tr), .second, .val (.long b1), .second, .val (.long er), .second, .val (.int fg), .val (.long fv), .second, .val (.long tv), .second, .val (.long ev), .second, .val (.int (0 : Int32)), .val (.long a1), .second, .unset, .unset] [(.long fv), (.ref pv), (.ref pv)])) tgt
          refine XS.lloadN X15.here hx rfl (hb hby at_128) rfl ?_
          exact k
        obtain ⟨_, _, ⟨T16, L16, k16, n16⟩, -, X16, ⟨Lc16, hQ16, l16, y16, z16⟩, st16⟩ := X15.specialBack hx (y := (⟨"com/example/headwater/headwater/connectors/ListingPace", "<init>", "(JJ)V"⟩ : MethodName)) rfl hown (mvT hZ (hw _ (List.mem_of_getElem? (i := 4) rfl))) (mvT hZ (hw _ (List.mem_of_getElem? (i := 5) rfl))) (mvT hZ (hw _ (List.mem_of_getElem? (i := 6) rfl))) (by decide) (backOf (W := 1) (rm1 l Z a0 hw [] pv fv a1 h15 n0 Zs15 A15 F_pv_factor_15 F_pv_began_15 F_pv_took_15 g_pv) hZ (hw _ (List.mem_of_getElem? (i := 6) rfl)) (hw _ (List.mem_of_getElem? (i := 3) rfl)) (by decide) (by decide)) (g := (mkF m 129 #[.val (.long fr), .second, .val (.long a1), .second, .val (.long tr), .second, .val (.long b1), .second, .val (.long er), .second, .val (.int fg), .val (.long fv), .second, .val (.long tv), .second, .val (.long ev), .second, .val (.int (0 : Int32)), .val (.long a1), .second, .unset, .unset] [(.long a1), (.long fv), (.ref pv), (.ref pv)])) rfl (by rw [hml]; rfl) (Steps.refl _) (a := pv) (argsL := [(.long fv), (.long a1)]) (rest := [(.ref pv)]) (lenOf pd_0_1 rfl) rfl (by show 2 * 0 + _ ≤ _; exact Nat.le_of_eq rfl) (hb hby at_129) (fun _ _ => ⟨rfl, e15, (by decide : 1 + 0 ≤ _), (by decide : 3 + 0 ≤ _)⟩)
        dsimp only [Pt.U, Pt.locs, Pt.cells, Pt.slots] at X16 l16 y16 z16 st16 hQ16
        subst l16 y16 z16
        obtain ⟨rfl, N16q, K16, g16_0, g16_1, g16_2, g16_3⟩ := hQ16
        have N16 := Fr.app N0 N16q
        have E_pv_16 := A15.keep K16
        have Zs16 : n0 ≤ T16.heap.size := Nat.le_trans Zs15 K16.1
        refine own_st (fun tgt k => st16.trans k) ?_
        show own_Go p e below _ (T16.setTop (mkF m 132 #[.val (.long fr), .second, .val (.long a1), .second, .val (.long tr), .second, .val (.long b1), .second, .val (.long er), .second, .val (.int fg), .val (.long fv), .second, .val (.long tv), .second, .val (.long ev), .second, .val (.int (0 : Int32)), .val (.long a1), .second, .unset, .unset] [(.ref pv)]))
        refine own_st (V := T16.setTop (mkF m 140 #[.val (.long fr), .second, .val (.long a1), .second, .val (.long tr), .second, .val (.long b1), .second, .val (.long er), .second, .val (.int fg), .val (.long fv), .second, .val (.long tv), .second, .val (.long ev), .second, .val (.int (0 : Int32)), .val (.long a1), .second, .val (.ref pv), .unset] [(.long (a1 + tv)), (.ref pv)])) (fun tgt k => ?_) ?_
        · show Steps p.tables e below (T16.setTop (mkF m 132 #[.val (.long fr), .second, .val (.long a1), .second, .val (.long tr), .second, .val (.long b1), .second, .val (.long er), .second, .val (.int fg), .val (.long fv), .second, .val (.long tv), .second, .val (.long ev), .second, .val (.int (0 : Int32)), .val (.long a1), .second, .unset, .unset] [(.ref pv)])) tgt
          refine XS.astore X16.here hx rfl (hb hby at_132) rfl rfl (l' := #[.val (.long fr), .second, .val (.long a1), .second, .val (.long tr), .second, .val (.long b1), .second, .val (.long er), .second, .val (.int fg), .val (.long fv), .second, .val (.long tv), .second, .val (.long ev), .second, .val (.int (0 : Int32)), .val (.long a1), .second, .val (.ref pv), .unset]) rfl ?_
          show Steps p.tables e below (T16.setTop (mkF m 134 #[.val (.long fr), .second, .val (.long a1), .second, .val (.long tr), .second, .val (.long b1), .second, .val (.long er), .second, .val (.int fg), .val (.long fv), .second, .val (.long tv), .second, .val (.long ev), .second, .val (.int (0 : Int32)), .val (.long a1), .second, .val (.ref pv), .unset] [])) tgt
          refine XS.aload X16.here hx rfl (hb hby at_134) rfl rfl ?_
          show Steps p.tables e below (T16.setTop (mkF m 136 #[.val (.long fr), .second, .val (.long a1), .second, .val (.long tr), .second, .val (.long b1), .second, .val (.long er), .second, .val (.int fg), .val (.long fv), .second, .val (.long tv), .second, .val (.long ev), .second, .val (.int (0 : Int32)), .val (.long a1), .second, .val (.ref pv), .unset] [(.ref pv)])) tgt
          refine XS.lloadN X16.here hx rfl (hb hby at_136) rfl ?_
          show Steps p.tables e below (T16.setTop (mkF m 137 #[.val (.long fr), .second, .val (.long a1), .second, .val (.long tr), .second, .val (.long b1), .second, .val (.long er), .second, .val (.int fg), .val (.long fv), .second, .val (.long tv), .second, .val (.long ev), .second, .val (.int (0 : Int32)), .val (.long a1), .second, .val (.ref pv), .unset] [(.long a1), (.ref pv)])) tgt
          refine XS.lload X16.here hx rfl (hb hby at_137) rfl ?_
          show Steps p.tables e below (T16.setTop (mkF m 139 #[.val (.long fr), .second, .val (.long a1), .second, .val (.long tr), .second, .val (.long b1), .second, .val (.long er), .second, .val (.int fg), .val (.long fv), .second, .val (.long tv), .second, .val (.long ev), .second, .val (.int (0 : Int32)), .val (.long a1), .second, .val (.ref pv), .unset] [(.long tv), (.long a1), (.ref pv)])) tgt
          refine XS.ladd X16.here hx rfl (hb hby at_139) rfl ?_
          exact k
        obtain ⟨cq17, kq17, q17a, q17b, q17c⟩ := isOf hZ rfl g16_0
        obtain ⟨_, _, ⟨T17, L17, k17, n17⟩, -, X17, ⟨Lc17, hQ17, l17, y17, z17⟩, st17⟩ := X16.virtualBack hx (y := (⟨"com/example/headwater/headwater/connectors/ListingPace", "ended", "(J)V"⟩ : MethodName)) (z := (⟨"com/example/headwater/headwater/connectors/ListingPace", "ended", "(J)V"⟩ : MethodName)) hown (mvT hZ (hw _ (List.mem_of_getElem? (i := 14) rfl))) (mvT hZ (hw _ (List.mem_of_getElem? (i := 15) rfl))) (notFace_of_selects (args := #[]) (mvT hZ (hw _ (List.mem_of_getElem? (i := 17) rfl)))) (mvT hZ (hw _ (List.mem_of_getElem? (i := 17) rfl))) (mvT hZ (hw _ (List.mem_of_getElem? (i := 16) rfl))) (by decide) (backOf (W := 0) (rm3 l Z a0 hw [] pv (a1 + tv) fv a1 (0 : Int64) T16.heap n0 Zs16 g16_0 g16_1 g16_2 g16_3 g_pv) hZ (hw _ (List.mem_of_getElem? (i := 18) rfl)) (hw _ (List.mem_of_getElem? (i := 3) rfl)) (by decide) (by decide)) q17a q17c (g := (mkF m 140 #[.val (.long fr), .second, .val (.long a1), .second, .val (.long tr), .second, .val (.long b1), .second, .val (.long er), .second, .val (.int fg), .val (.long fv), .second, .val (.long tv), .second, .val (.long ev), .second, .val (.int (0 : Int32)), .val (.long a1), .second, .val (.ref pv), .unset] [(.long (a1 + tv)), (.ref pv)])) rfl (by rw [hml]; rfl) (Steps.refl _) (argsL := [(.long (a1 + tv))]) (rest := []) (lenOf pd_0_2 rfl) rfl (by show 2 * 0 + _ ≤ _; exact Nat.le_of_eq rfl) (hb hby at_140) (fun _ _ => ⟨rfl, rfl, (by decide : 1 + 0 ≤ _), (by decide : 3 + 0 ≤ _)⟩)
        dsimp only [Pt.U, Pt.locs, Pt.cells, Pt.slots] at X17 l17 y17 z17 st17 hQ17
        subst l17 y17 z17
        obtain ⟨rfl, N17q, K17, g17_0, g17_1, g17_2, g17_3⟩ := hQ17
        have N17 := Fr.app N16 N17q
        have E_pv_17 := g16_0.keep K17
        have Zs17 : n0 ≤ T17.heap.size := Nat.le_trans Zs16 K17.1
        refine own_st (fun tgt k => st17.trans k) ?_
        show own_Go p e below _ (T17.setTop (mkF m 143 #[.val (.long fr), .second, .val (.long a1), .second, .val (.long tr), .second, .val (.long b1), .second, .val (.long er), .second, .val (.int fg), .val (.long fv), .second, .val (.long tv), .second, .val (.long ev), .second, .val (.int (0 : Int32)), .val (.long a1), .second, .val (.ref pv), .unset] []))
        refine own_st (V := T17.setTop (mkF m 162 #[.val (.long fr), .second, .val (.long a1), .second, .val (.long tr), .second, .val (.long b1), .second, .val (.long er), .second, .val (.int fg), .val (.long fv), .second, .val (.long tv), .second, .val (.long ev), .second, .val (.int (0 : Int32)), .val (.long a1), .second, .val (.ref pv), .unset] [(.long (a1 + ev)), (.ref pv)])) (fun tgt k => ?_) ?_
        · show Steps p.tables e below (T17.setTop (mkF m 143 #[.val (.long fr), .second, .val (.long a1), .second, .val (.long tr), .second, .val (.long b1), .second, .val (.long er), .second, .val (.int fg), .val (.long fv), .second, .val (.long tv), .second, .val (.long ev), .second, .val (.int (0 : Int32)), .val (.long a1), .second, .val (.ref pv), .unset] [])) tgt
          refine XS.iload X17.here hx rfl (hb hby at_143) rfl ?_
          show Steps p.tables e below (T17.setTop (mkF m 145 #[.val (.long fr), .second, .val (.long a1), .second, .val (.long tr), .second, .val (.long b1), .second, .val (.long er), .second, .val (.int fg), .val (.long fv), .second, .val (.long tv), .second, .val (.long ev), .second, .val (.int (0 : Int32)), .val (.long a1), .second, .val (.ref pv), .unset] [(.int (0 : Int32))])) tgt
          refine XS.ifYes X17.here hx rfl (pc0 := 145) (pc' := 155) rfl (hb hby at_145) rfl ((if0 _ _).trans (teq (by decide : (0 : Int32) = (0 : Int32))).1) (by decide) (by decide) ?_
          show Steps p.tables e below (T17.setTop (mkF m 155 #[.val (.long fr), .second, .val (.long a1), .second, .val (.long tr), .second, .val (.long b1), .second, .val (.long er), .second, .val (.int fg), .val (.long fv), .second, .val (.long tv), .second, .val (.long ev), .second, .val (.int (0 : Int32)), .val (.long a1), .second, .val (.ref pv), .unset] [])) tgt
          refine XS.aload X17.here hx rfl (hb hby at_155) rfl rfl ?_
          show Steps p.tables e below (T17.setTop (mkF m 157 #[.val (.long fr), .second, .val (.long a1), .second, .val (.long tr), .second, .val (.long b1), .second, .val (.long er), .second, .val (.int fg), .val (.long fv), .second, .val (.long tv), .second, .val (.long ev), .second, .val (.int (0 : Int32)), .val (.long a1), .second, .val (.ref pv), .unset] [(.ref pv)])) tgt
          refine XS.lload X17.here hx rfl (hb hby at_157) rfl ?_
          show Steps p.tables e below (T17.setTop (mkF m 159 #[.val (.long fr), .second, .val (.long a1), .second, .val (.long tr), .second, .val (.long b1), .second, .val (.long er), .second, .val (.int fg), .val (.long fv), .second, .val (.long tv), .second, .val (.long ev), .second, .val (.int (0 : Int32)), .val (.long a1), .second, .val (.ref pv), .unset] [(.long a1), (.ref pv)])) tgt
          refine XS.lload X17.here hx rfl (hb hby at_159) rfl ?_
          show Steps p.tables e below (T17.setTop (mkF m 161 #[.val (.long fr), .second, .val (.long a1), .second, .val (.long tr), .second, .val (.long b1), .second, .val (.long er), .second, .val (.int fg), .val (.long fv), .second, .val (.long tv), .second, .val (.long ev), .second, .val (.int (0 : Int32)), .val (.long a1), .second, .val (.ref pv), .unset] [(.long ev), (.long a1), (.ref pv)])) tgt
          refine XS.ladd X17.here hx rfl (hb hby at_161) rfl ?_
          exact k
        obtain ⟨cq18, kq18, q18a, q18b, q18c⟩ := isOf hZ rfl g17_0
        obtain ⟨_, _, ⟨T18, L18, k18, n18⟩, -, X18, ⟨Lc18, hQ18, l18, y18, z18⟩, st18⟩ := X17.virtualBack hx (y := (⟨"com/example/headwater/headwater/connectors/ListingPace", "allows", "(J)Z"⟩ : MethodName)) (z := (⟨"com/example/headwater/headwater/connectors/ListingPace", "allows", "(J)Z"⟩ : MethodName)) hown (mvT hZ (hw _ (List.mem_of_getElem? (i := 21) rfl))) (mvT hZ (hw _ (List.mem_of_getElem? (i := 22) rfl))) (notFace_of_selects (args := #[]) (mvT hZ (hw _ (List.mem_of_getElem? (i := 24) rfl)))) (mvT hZ (hw _ (List.mem_of_getElem? (i := 24) rfl))) (mvT hZ (hw _ (List.mem_of_getElem? (i := 23) rfl))) (by decide) (backOf (W := 0) (rm4 l Z a0 hw [] pv (a1 + ev) fv a1 ((a1 + tv) - a1) T17.heap n0 Zs17 g17_0 g17_1 g17_2 g17_3 (own_nz64 hf1)) hZ (hw _ (List.mem_of_getElem? (i := 25) rfl)) (hw _ (List.mem_of_getElem? (i := 3) rfl)) (by decide) (by decide)) q18a q18c (g := (mkF m 162 #[.val (.long fr), .second, .val (.long a1), .second, .val (.long tr), .second, .val (.long b1), .second, .val (.long er), .second, .val (.int fg), .val (.long fv), .second, .val (.long tv), .second, .val (.long ev), .second, .val (.int (0 : Int32)), .val (.long a1), .second, .val (.ref pv), .unset] [(.long (a1 + ev)), (.ref pv)])) rfl (by rw [hml]; rfl) (Steps.refl _) (argsL := [(.long (a1 + ev))]) (rest := []) (lenOf pd_0_3 rfl) rfl (by show 2 * 0 + _ ≤ _; exact Nat.le_of_eq rfl) (hb hby at_162) (fun _ _ => ⟨rfl, rfl, (by decide : 1 + 0 ≤ _), (by decide : 3 + 0 ≤ _)⟩)
        dsimp only [Pt.U, Pt.locs, Pt.cells, Pt.slots] at X18 l18 y18 z18 st18 hQ18
        subst l18 y18 z18
        obtain ⟨rfl, N18q, K18⟩ := hQ18
        have N18 := Fr.app N17 N18q
        refine own_st (fun tgt k => st18.trans k) ?_
        show own_Go p e below _ (T18.setTop (mkF m 165 #[.val (.long fr), .second, .val (.long a1), .second, .val (.long tr), .second, .val (.long b1), .second, .val (.long er), .second, .val (.int fg), .val (.long fv), .second, .val (.long tv), .second, .val (.long ev), .second, .val (.int (0 : Int32)), .val (.long a1), .second, .val (.ref pv), .unset] [(.int (own_A fv a1 ((a1 + tv) - a1) (a1 + ev)))]))
        refine own_st (V := T18.setTop (mkF m 175 #[.val (.long fr), .second, .val (.long a1), .second, .val (.long tr), .second, .val (.long b1), .second, .val (.long er), .second, .val (.int fg), .val (.long fv), .second, .val (.long tv), .second, .val (.long ev), .second, .val (.int (0 : Int32)), .val (.long a1), .second, .val (.ref pv), .val (.int (own_A fv a1 ((a1 + tv) - a1) (a1 + ev)))] [(.long ev), (.long tv), (.long fv), (.int (own_A fv a1 ((a1 + tv) - a1) (a1 + ev)))])) (fun tgt k => ?_) ?_
        · show Steps p.tables e below (T18.setTop (mkF m 165 #[.val (.long fr), .second, .val (.long a1), .second, .val (.long tr), .second, .val (.long b1), .second, .val (.long er), .second, .val (.int fg), .val (.long fv), .second, .val (.long tv), .second, .val (.long ev), .second, .val (.int (0 : Int32)), .val (.long a1), .second, .val (.ref pv), .unset] [(.int (own_A fv a1 ((a1 + tv) - a1) (a1 + ev)))])) tgt
          refine XS.istore X18.here hx rfl (hb hby at_165) rfl (l' := #[.val (.long fr), .second, .val (.long a1), .second, .val (.long tr), .second, .val (.long b1), .second, .val (.long er), .second, .val (.int fg), .val (.long fv), .second, .val (.long tv), .second, .val (.long ev), .second, .val (.int (0 : Int32)), .val (.long a1), .second, .val (.ref pv), .val (.int (own_A fv a1 ((a1 + tv) - a1) (a1 + ev)))]) rfl ?_
          show Steps p.tables e below (T18.setTop (mkF m 167 #[.val (.long fr), .second, .val (.long a1), .second, .val (.long tr), .second, .val (.long b1), .second, .val (.long er), .second, .val (.int fg), .val (.long fv), .second, .val (.long tv), .second, .val (.long ev), .second, .val (.int (0 : Int32)), .val (.long a1), .second, .val (.ref pv), .val (.int (own_A fv a1 ((a1 + tv) - a1) (a1 + ev)))] [])) tgt
          refine XS.iload X18.here hx rfl (hb hby at_167) rfl ?_
          show Steps p.tables e below (T18.setTop (mkF m 169 #[.val (.long fr), .second, .val (.long a1), .second, .val (.long tr), .second, .val (.long b1), .second, .val (.long er), .second, .val (.int fg), .val (.long fv), .second, .val (.long tv), .second, .val (.long ev), .second, .val (.int (0 : Int32)), .val (.long a1), .second, .val (.ref pv), .val (.int (own_A fv a1 ((a1 + tv) - a1) (a1 + ev)))] [(.int (own_A fv a1 ((a1 + tv) - a1) (a1 + ev)))])) tgt
          refine XS.lload X18.here hx rfl (hb hby at_169) rfl ?_
          show Steps p.tables e below (T18.setTop (mkF m 171 #[.val (.long fr), .second, .val (.long a1), .second, .val (.long tr), .second, .val (.long b1), .second, .val (.long er), .second, .val (.int fg), .val (.long fv), .second, .val (.long tv), .second, .val (.long ev), .second, .val (.int (0 : Int32)), .val (.long a1), .second, .val (.ref pv), .val (.int (own_A fv a1 ((a1 + tv) - a1) (a1 + ev)))] [(.long fv), (.int (own_A fv a1 ((a1 + tv) - a1) (a1 + ev)))])) tgt
          refine XS.lload X18.here hx rfl (hb hby at_171) rfl ?_
          show Steps p.tables e below (T18.setTop (mkF m 173 #[.val (.long fr), .second, .val (.long a1), .second, .val (.long tr), .second, .val (.long b1), .second, .val (.long er), .second, .val (.int fg), .val (.long fv), .second, .val (.long tv), .second, .val (.long ev), .second, .val (.int (0 : Int32)), .val (.long a1), .second, .val (.ref pv), .val (.int (own_A fv a1 ((a1 + tv) - a1) (a1 + ev)))] [(.long tv), (.long fv), (.int (own_A fv a1 ((a1 + tv) - a1) (a1 + ev)))])) tgt
          refine XS.lload X18.here hx rfl (hb hby at_173) rfl ?_
          exact k
        obtain ⟨_, _, ⟨T19, L19, k19, n19⟩, -, X19, ⟨Lc19, hQ19, l19, y19, z19⟩, st19⟩ := Jvm.LawKit.callS X18 hx (y := (⟨"com/example/headwater/headwater/connectors/ListingPaceAllowsPinLaw", "expected", "(JJJ)Z"⟩ : MethodName)) hown (mvT hZ (hw _ (List.mem_of_getElem? (i := 26) rfl))) (mvT hZ (hw _ (List.mem_of_getElem? (i := 27) rfl))) (mvT hZ (hw _ (List.mem_of_getElem? (i := 28) rfl))) (mvT hZ (hw _ (List.mem_of_getElem? (i := 29) rfl))) (by decide) (backOf (W := 1) (rm5 l Z a0 hw [] fv tv ev T17.heap n0 Zs17 ) hZ (hw _ (List.mem_of_getElem? (i := 29) rfl)) (hw _ (List.mem_of_getElem? (i := 28) rfl)) (by decide) (by decide)) (g := (mkF m 175 #[.val (.long fr), .second, .val (.long a1), .second, .val (.long tr), .second, .val (.long b1), .second, .val (.long er), .second, .val (.int fg), .val (.long fv), .second, .val (.long tv), .second, .val (.long ev), .second, .val (.int (0 : Int32)), .val (.long a1), .second, .val (.ref pv), .val (.int (own_A fv a1 ((a1 + tv) - a1) (a1 + ev)))] [(.long ev), (.long tv), (.long fv), (.int (own_A fv a1 ((a1 + tv) - a1) (a1 + ev)))])) rfl (by rw [hml]; rfl) (argsL := [(.long fv), (.long tv), (.long ev)]) (rest := [(.int (own_A fv a1 ((a1 + tv) - a1) (a1 + ev)))]) (lenOf pd_0_4 rfl) rfl (by show 2 * 0 + _ ≤ _; exact Nat.le_of_eq rfl) (hb hby at_175) (fun _ _ => ⟨rfl, K18, (by decide : 1 + 0 ≤ _), (by decide : 3 + 0 ≤ _)⟩)
        dsimp only [Pt.U, Pt.locs, Pt.cells, Pt.slots] at X19 l19 y19 z19 st19 hQ19
        subst l19 y19 z19
        obtain ⟨rfl, N19q, K19⟩ := hQ19
        have N19 := Fr.app N18 N19q
        refine own_st st19 ?_
        show own_Go p e below _ (T19.setTop (mkF m 178 #[.val (.long fr), .second, .val (.long a1), .second, .val (.long tr), .second, .val (.long b1), .second, .val (.long er), .second, .val (.int fg), .val (.long fv), .second, .val (.long tv), .second, .val (.long ev), .second, .val (.int (0 : Int32)), .val (.long a1), .second, .val (.ref pv), .val (.int (own_A fv a1 ((a1 + tv) - a1) (a1 + ev)))] [(.int (own_E fv tv ev)), (.int (own_A fv a1 ((a1 + tv) - a1) (a1 + ev)))]))
        refine own_st (V := T19.setTop (mkF m 186 #[.val (.long fr), .second, .val (.long a1), .second, .val (.long tr), .second, .val (.long b1), .second, .val (.long er), .second, .val (.int fg), .val (.long fv), .second, .val (.long tv), .second, .val (.long ev), .second, .val (.int (0 : Int32)), .val (.long a1), .second, .val (.ref pv), .val (.int (own_A fv a1 ((a1 + tv) - a1) (a1 + ev)))] [(.int (1 : Int32))])) (fun tgt k => ?_) ?_
        · show Steps p.tables e below (T19.setTop (mkF m 178 #[.val (.long fr), .second, .val (.long a1), .second, .val (.long tr), .second, .val (.long b1), .second, .val (.long er), .second, .val (.int fg), .val (.long fv), .second, .val (.long tv), .second, .val (.long ev), .second, .val (.int (0 : Int32)), .val (.long a1), .second, .val (.ref pv), .val (.int (own_A fv a1 ((a1 + tv) - a1) (a1 + ev)))] [(.int (own_E fv tv ev)), (.int (own_A fv a1 ((a1 + tv) - a1) (a1 + ev)))])) tgt
          refine XS.icmpNo X19.here hx rfl (hb hby at_178) rfl (teq (own_law _ _ _ _ _ hf1 ht0 he0)).2 ?_
          show Steps p.tables e below (T19.setTop (mkF m 181 #[.val (.long fr), .second, .val (.long a1), .second, .val (.long tr), .second, .val (.long b1), .second, .val (.long er), .second, .val (.int fg), .val (.long fv), .second, .val (.long tv), .second, .val (.long ev), .second, .val (.int (0 : Int32)), .val (.long a1), .second, .val (.ref pv), .val (.int (own_A fv a1 ((a1 + tv) - a1) (a1 + ev)))] [])) tgt
          refine XS.iconst X19.here hx rfl (hb hby at_181) ?_
          show Steps p.tables e below (T19.setTop (mkF m 182 #[.val (.long fr), .second, .val (.long a1), .second, .val (.long tr), .second, .val (.long b1), .second, .val (.long er), .second, .val (.int fg), .val (.long fv), .second, .val (.long tv), .second, .val (.long ev), .second, .val (.int (0 : Int32)), .val (.long a1), .second, .val (.ref pv), .val (.int (own_A fv a1 ((a1 + tv) - a1) (a1 + ev)))] [(.int (1 : Int32))])) tgt
          refine XS.goto X19.here hx rfl (pc0 := 182) (pc' := 186) rfl (hb hby at_182) (by decide) (by decide) ?_
          exact k
        refine own_retN X19 hx hlk (t := .boolean) (z' := (1 : Int32)) Bd.returns (by simp) rfl (hb hby at_186) ?_ (by decide) (by decide)
        show Q0 Z fr a1 tr b1 er fg h0 n0 (some (.int (1 : Int32))) T19.heap _
        rw [K19]
        exact ⟨rfl, N19⟩
      · skip
        refine own_st (V := s₁.setTop (mkF m 122 #[.val (.long fr), .second, .val (.long a1), .second, .val (.long tr), .second, .val (.long b1), .second, .val (.long er), .second, .val (.int fg), .val (.long fv), .second, .val (.long tv), .second, .val (.long ev), .second, .val (.int (1 : Int32)), .val (.long b1), .second, .unset, .unset] [])) (fun tgt k => ?_) ?_
        · show Steps p.tables e below (s₁.setTop (mkF m 99 #[.val (.long fr), .second, .val (.long a1), .second, .val (.long tr), .second, .val (.long b1), .second, .val (.long er), .second, .val (.int fg), .val (.long fv), .second, .val (.long tv), .second, .val (.long ev), .second, .unset, .unset, .unset, .unset, .unset] [(.int (fg &&& (1 : Int32)))])) tgt
          refine XS.ifNo X0.here hx rfl (hb hby at_99) rfl ((if0 _ _).trans (feq hc99).1) ?_
          show Steps p.tables e below (s₁.setTop (mkF m 102 #[.val (.long fr), .second, .val (.long a1), .second, .val (.long tr), .second, .val (.long b1), .second, .val (.long er), .second, .val (.int fg), .val (.long fv), .second, .val (.long tv), .second, .val (.long ev), .second, .unset, .unset, .unset, .unset, .unset] [])) tgt
          refine XS.iconst X0.here hx rfl (hb hby at_102) ?_
          show Steps p.tables e below (s₁.setTop (mkF m 103 #[.val (.long fr), .second, .val (.long a1), .second, .val (.long tr), .second, .val (.long b1), .second, .val (.long er), .second, .val (.int fg), .val (.long fv), .second, .val (.long tv), .second, .val (.long ev), .second, .unset, .unset, .unset, .unset, .unset] [(.int (1 : Int32))])) tgt
          refine XS.goto X0.here hx rfl (pc0 := 103) (pc' := 107) rfl (hb hby at_103) (by decide) (by decide) ?_
          show Steps p.tables e below (s₁.setTop (mkF m 107 #[.val (.long fr), .second, .val (.long a1), .second, .val (.long tr), .second, .val (.long b1), .second, .val (.long er), .second, .val (.int fg), .val (.long fv), .second, .val (.long tv), .second, .val (.long ev), .second, .unset, .unset, .unset, .unset, .unset] [(.int (1 : Int32))])) tgt
          refine XS.istore X0.here hx rfl (hb hby at_107) rfl (l' := #[.val (.long fr), .second, .val (.long a1), .second, .val (.long tr), .second, .val (.long b1), .second, .val (.long er), .second, .val (.int fg), .val (.long fv), .second, .val (.long tv), .second, .val (.long ev), .second, .val (.int (1 : Int32)), .unset, .unset, .unset, .unset]) rfl ?_
          show Steps p.tables e below (s₁.setTop (mkF m 109 #[.val (.long fr), .second, .val (.long a1), .second, .val (.long tr), .second, .val (.long b1), .second, .val (.long er), .second, .val (.int fg), .val (.long fv), .second, .val (.long tv), .second, .val (.long ev), .second, .val (.int (1 : Int32)), .unset, .unset, .unset, .unset] [])) tgt
          refine XS.iload X0.here hx rfl (hb hby at_109) rfl ?_
          show Steps p.tables e below (s₁.setTop (mkF m 111 #[.val (.long fr), .second, .val (.long a1), .second, .val (.long tr), .second, .val (.long b1), .second, .val (.long er), .second, .val (.int fg), .val (.long fv), .second, .val (.long tv), .second, .val (.long ev), .second, .val (.int (1 : Int32)), .unset, .unset, .unset, .unset] [(.int (1 : Int32))])) tgt
          refine XS.ifNo X0.here hx rfl (hb hby at_111) rfl ((if0 _ _).trans (feq (by decide : ¬ ((1 : Int32) = (0 : Int32)))).1) ?_
          show Steps p.tables e below (s₁.setTop (mkF m 114 #[.val (.long fr), .second, .val (.long a1), .second, .val (.long tr), .second, .val (.long b1), .second, .val (.long er), .second, .val (.int fg), .val (.long fv), .second, .val (.long tv), .second, .val (.long ev), .second, .val (.int (1 : Int32)), .unset, .unset, .unset, .unset] [])) tgt
          refine XS.lload X0.here hx rfl (hb hby at_114) rfl ?_
          show Steps p.tables e below (s₁.setTop (mkF m 116 #[.val (.long fr), .second, .val (.long a1), .second, .val (.long tr), .second, .val (.long b1), .second, .val (.long er), .second, .val (.int fg), .val (.long fv), .second, .val (.long tv), .second, .val (.long ev), .second, .val (.int (1 : Int32)), .unset, .unset, .unset, .unset] [(.long b1)])) tgt
          refine XS.goto X0.here hx rfl (pc0 := 116) (pc' := 120) rfl (hb hby at_116) (by decide) (by decide) ?_
          show Steps p.tables e below (s₁.setTop (mkF m 120 #[.val (.long fr), .second, .val (.long a1), .second, .val (.long tr), .second, .val (.long b1), .second, .val (.long er), .second, .val (.int fg), .val (.long fv), .second, .val (.long tv), .second, .val (.long ev), .second, .val (.int (1 : Int32)), .unset, .unset, .unset, .unset] [(.long b1)])) tgt
          refine XS.lstore X0.here hx rfl (hb hby at_120) rfl (l' := #[.val (.long fr), .second, .val (.long a1), .second, .val (.long tr), .second, .val (.long b1), .second, .val (.long er), .second, .val (.int fg), .val (.long fv), .second, .val (.long tv), .second, .val (.long ev), .second, .val (.int (1 : Int32)), .val (.long b1), .second, .unset, .unset]) rfl ?_
          exact k
        obtain ⟨T21, h21, X21, e21, E21, A21, D21, -, st21⟩ := newO X0 hx hZ hown (hw _ (List.mem_of_getElem? (i := 1) rfl)) (hw _ (List.mem_of_getElem? (i := 2) rfl)) (hw _ (List.mem_of_getElem? (i := 3) rfl)) e0 (g := (mkF m 122 #[.val (.long fr), .second, .val (.long a1), .second, .val (.long tr), .second, .val (.long b1), .second, .val (.long er), .second, .val (.int fg), .val (.long fv), .second, .val (.long tv), .second, .val (.long ev), .second, .val (.int (1 : Int32)), .val (.long b1), .second, .unset, .unset] [])) rfl (hb hby at_122) (by decide) (by decide)
        obtain ⟨pv, g21⟩ : ∃ z, z = h0.size := ⟨_, rfl⟩
        rw [← g21] at A21 D21 st21
        have g_pv : n0 ≤ pv := Nat.le_trans Z0 (Nat.le_of_eq g21.symm)
        have Zs21 : n0 ≤ h21.size := Nat.le_trans Z0 E21.1
        have F_pv_factor_21 : Fld Z h21 pv "com/example/headwater/headwater/connectors/ListingPace" "factor" "J" (.long (0 : Int64)) := D21 (Or.inr (hw _ (List.mem_of_getElem? (i := 11) rfl))) (ty := .long) (by decide)
        have F_pv_began_21 : Fld Z h21 pv "com/example/headwater/headwater/connectors/ListingPace" "began" "J" (.long (0 : Int64)) := D21 (Or.inl (hw _ (List.mem_of_getElem? (i := 13) rfl))) (ty := .long) (by decide)
        have F_pv_took_21 : Fld Z h21 pv "com/example/headwater/headwater/connectors/ListingPace" "took" "J" (.long (0 : Int64)) := D21 (Or.inl (hw _ (List.mem_of_getElem? (i := 20) rfl))) (ty := .long) (by decide)
        refine own_st st21 ?_
        show own_Go p e below _ (T21.setTop (mkF m 125 #[.val (.long fr), .second, .val (.long a1), .second, .val (.long tr), .second, .val (.long b1), .second, .val (.long er), .second, .val (.int fg), .val (.long fv), .second, .val (.long tv), .second, .val (.long ev), .second, .val (.int (1 : Int32)), .val (.long b1), .second, .unset, .unset] [(.ref pv)]))
        refine own_st (V := T21.setTop (mkF m 129 #[.val (.long fr), .second, .val (.long a1), .second, .val (.long tr), .second, .val (.long b1), .second, .val (.long er), .second, .val (.int fg), .val (.long fv), .second, .val (.long tv), .second, .val (.long ev), .second, .val (.int (1 : Int32)), .val (.long b1), .second, .unset, .unset] [(.long a1), (.long fv), (.ref pv), (.ref pv)])) (fun tgt k => ?_) ?_
        · show Steps p.tables e below (T21.setTop (mkF m 125 #[.val (.long fr), .second, .val (.long a1), .second, .val (.long tr), .second, .val (.long b1), .second, .val (.long er), .second, .val (.int fg), .val (.long fv), .second, .val (.long tv), .second, .val (.long ev), .second, .val (.int (1 : Int32)), .val (.long b1), .second, .unset, .unset] [(.ref pv)])) tgt
          refine XS.dup X21.here hx rfl (hb hby at_125) rfl rfl ?_
          show Steps p.tables e below (T21.setTop (mkF m 126 #[.val (.long fr), .second, .val (.long a1), .second, .val (.long tr), .second, .val (.long b1), .second, .val (.long er), .second, .val (.int fg), .val (.long fv), .second, .val (.long tv), .second, .val (.long ev), .second, .val (.int (1 : Int32)), .val (.long b1), .second, .unset, .unset] [(.ref pv), (.ref pv)])) tgt
          refine XS.lload X21.here hx rfl (hb hby at_126) rfl ?_
          show Steps p.tables e below (T21.setTop (mkF m 128 #[.val (.long fr), .second, .val (.long a1), .second, .val (.long tr), .second, .val (.long b1), .second, .val (.long er), .second, .val (.int fg), .val (.long fv), .second, .val (.long tv), .second, .val (.long ev), .second, .val (.int (1 : Int32)), .val (.long b1), .second, .unset, .unset] [(.long fv), (.ref pv), (.ref pv)])) tgt
          refine XS.lloadN X21.here hx rfl (hb hby at_128) rfl ?_
          exact k
        obtain ⟨_, _, ⟨T22, L22, k22, n22⟩, -, X22, ⟨Lc22, hQ22, l22, y22, z22⟩, st22⟩ := X21.specialBack hx (y := (⟨"com/example/headwater/headwater/connectors/ListingPace", "<init>", "(JJ)V"⟩ : MethodName)) rfl hown (mvT hZ (hw _ (List.mem_of_getElem? (i := 4) rfl))) (mvT hZ (hw _ (List.mem_of_getElem? (i := 5) rfl))) (mvT hZ (hw _ (List.mem_of_getElem? (i := 6) rfl))) (by decide) (backOf (W := 1) (rm1 l Z a0 hw [] pv fv a1 h21 n0 Zs21 A21 F_pv_factor_21 F_pv_began_21 F_pv_took_21 g_pv) hZ (hw _ (List.mem_of_getElem? (i := 6) rfl)) (hw _ (List.mem_of_getElem? (i := 3) rfl)) (by decide) (by decide)) (g := (mkF m 129 #[.val (.long fr), .second, .val (.long a1), .second, .val (.long tr), .second, .val (.long b1), .second, .val (.long er), .second, .val (.int fg), .val (.long fv), .second, .val (.long tv), .second, .val (.long ev), .second, .val (.int (1 : Int32)), .val (.long b1), .second, .unset, .unset] [(.long a1), (.long fv), (.ref pv), (.ref pv)])) rfl (by rw [hml]; rfl) (Steps.refl _) (a := pv) (argsL := [(.long fv), (.long a1)]) (rest := [(.ref pv)]) (lenOf pd_0_1 rfl) rfl (by show 2 * 0 + _ ≤ _; exact Nat.le_of_eq rfl) (hb hby at_129) (fun _ _ => ⟨rfl, e21, (by decide : 1 + 0 ≤ _), (by decide : 3 + 0 ≤ _)⟩)
        dsimp only [Pt.U, Pt.locs, Pt.cells, Pt.slots] at X22 l22 y22 z22 st22 hQ22
        subst l22 y22 z22
        obtain ⟨rfl, N22q, K22, g22_0, g22_1, g22_2, g22_3⟩ := hQ22
        have N22 := Fr.app N0 N22q
        have E_pv_22 := A21.keep K22
        have Zs22 : n0 ≤ T22.heap.size := Nat.le_trans Zs21 K22.1
        refine own_st (fun tgt k => st22.trans k) ?_
        show own_Go p e below _ (T22.setTop (mkF m 132 #[.val (.long fr), .second, .val (.long a1), .second, .val (.long tr), .second, .val (.long b1), .second, .val (.long er), .second, .val (.int fg), .val (.long fv), .second, .val (.long tv), .second, .val (.long ev), .second, .val (.int (1 : Int32)), .val (.long b1), .second, .unset, .unset] [(.ref pv)]))
        refine own_st (V := T22.setTop (mkF m 140 #[.val (.long fr), .second, .val (.long a1), .second, .val (.long tr), .second, .val (.long b1), .second, .val (.long er), .second, .val (.int fg), .val (.long fv), .second, .val (.long tv), .second, .val (.long ev), .second, .val (.int (1 : Int32)), .val (.long b1), .second, .val (.ref pv), .unset] [(.long (a1 + tv)), (.ref pv)])) (fun tgt k => ?_) ?_
        · show Steps p.tables e below (T22.setTop (mkF m 132 #[.val (.long fr), .second, .val (.long a1), .second, .val (.long tr), .second, .val (.long b1), .second, .val (.long er), .second, .val (.int fg), .val (.long fv), .second, .val (.long tv), .second, .val (.long ev), .second, .val (.int (1 : Int32)), .val (.long b1), .second, .unset, .unset] [(.ref pv)])) tgt
          refine XS.astore X22.here hx rfl (hb hby at_132) rfl rfl (l' := #[.val (.long fr), .second, .val (.long a1), .second, .val (.long tr), .second, .val (.long b1), .second, .val (.long er), .second, .val (.int fg), .val (.long fv), .second, .val (.long tv), .second, .val (.long ev), .second, .val (.int (1 : Int32)), .val (.long b1), .second, .val (.ref pv), .unset]) rfl ?_
          show Steps p.tables e below (T22.setTop (mkF m 134 #[.val (.long fr), .second, .val (.long a1), .second, .val (.long tr), .second, .val (.long b1), .second, .val (.long er), .second, .val (.int fg), .val (.long fv), .second, .val (.long tv), .second, .val (.long ev), .second, .val (.int (1 : Int32)), .val (.long b1), .second, .val (.ref pv), .unset] [])) tgt
          refine XS.aload X22.here hx rfl (hb hby at_134) rfl rfl ?_
          show Steps p.tables e below (T22.setTop (mkF m 136 #[.val (.long fr), .second, .val (.long a1), .second, .val (.long tr), .second, .val (.long b1), .second, .val (.long er), .second, .val (.int fg), .val (.long fv), .second, .val (.long tv), .second, .val (.long ev), .second, .val (.int (1 : Int32)), .val (.long b1), .second, .val (.ref pv), .unset] [(.ref pv)])) tgt
          refine XS.lloadN X22.here hx rfl (hb hby at_136) rfl ?_
          show Steps p.tables e below (T22.setTop (mkF m 137 #[.val (.long fr), .second, .val (.long a1), .second, .val (.long tr), .second, .val (.long b1), .second, .val (.long er), .second, .val (.int fg), .val (.long fv), .second, .val (.long tv), .second, .val (.long ev), .second, .val (.int (1 : Int32)), .val (.long b1), .second, .val (.ref pv), .unset] [(.long a1), (.ref pv)])) tgt
          refine XS.lload X22.here hx rfl (hb hby at_137) rfl ?_
          show Steps p.tables e below (T22.setTop (mkF m 139 #[.val (.long fr), .second, .val (.long a1), .second, .val (.long tr), .second, .val (.long b1), .second, .val (.long er), .second, .val (.int fg), .val (.long fv), .second, .val (.long tv), .second, .val (.long ev), .second, .val (.int (1 : Int32)), .val (.long b1), .second, .val (.ref pv), .unset] [(.long tv), (.long a1), (.ref pv)])) tgt
          refine XS.ladd X22.here hx rfl (hb hby at_139) rfl ?_
          exact k
        obtain ⟨cq23, kq23, q23a, q23b, q23c⟩ := isOf hZ rfl g22_0
        obtain ⟨_, _, ⟨T23, L23, k23, n23⟩, -, X23, ⟨Lc23, hQ23, l23, y23, z23⟩, st23⟩ := X22.virtualBack hx (y := (⟨"com/example/headwater/headwater/connectors/ListingPace", "ended", "(J)V"⟩ : MethodName)) (z := (⟨"com/example/headwater/headwater/connectors/ListingPace", "ended", "(J)V"⟩ : MethodName)) hown (mvT hZ (hw _ (List.mem_of_getElem? (i := 14) rfl))) (mvT hZ (hw _ (List.mem_of_getElem? (i := 15) rfl))) (notFace_of_selects (args := #[]) (mvT hZ (hw _ (List.mem_of_getElem? (i := 17) rfl)))) (mvT hZ (hw _ (List.mem_of_getElem? (i := 17) rfl))) (mvT hZ (hw _ (List.mem_of_getElem? (i := 16) rfl))) (by decide) (backOf (W := 0) (rm3 l Z a0 hw [] pv (a1 + tv) fv a1 (0 : Int64) T22.heap n0 Zs22 g22_0 g22_1 g22_2 g22_3 g_pv) hZ (hw _ (List.mem_of_getElem? (i := 18) rfl)) (hw _ (List.mem_of_getElem? (i := 3) rfl)) (by decide) (by decide)) q23a q23c (g := (mkF m 140 #[.val (.long fr), .second, .val (.long a1), .second, .val (.long tr), .second, .val (.long b1), .second, .val (.long er), .second, .val (.int fg), .val (.long fv), .second, .val (.long tv), .second, .val (.long ev), .second, .val (.int (1 : Int32)), .val (.long b1), .second, .val (.ref pv), .unset] [(.long (a1 + tv)), (.ref pv)])) rfl (by rw [hml]; rfl) (Steps.refl _) (argsL := [(.long (a1 + tv))]) (rest := []) (lenOf pd_0_2 rfl) rfl (by show 2 * 0 + _ ≤ _; exact Nat.le_of_eq rfl) (hb hby at_140) (fun _ _ => ⟨rfl, rfl, (by decide : 1 + 0 ≤ _), (by decide : 3 + 0 ≤ _)⟩)
        dsimp only [Pt.U, Pt.locs, Pt.cells, Pt.slots] at X23 l23 y23 z23 st23 hQ23
        subst l23 y23 z23
        obtain ⟨rfl, N23q, K23, g23_0, g23_1, g23_2, g23_3⟩ := hQ23
        have N23 := Fr.app N22 N23q
        have E_pv_23 := g22_0.keep K23
        have Zs23 : n0 ≤ T23.heap.size := Nat.le_trans Zs22 K23.1
        refine own_st (fun tgt k => st23.trans k) ?_
        show own_Go p e below _ (T23.setTop (mkF m 143 #[.val (.long fr), .second, .val (.long a1), .second, .val (.long tr), .second, .val (.long b1), .second, .val (.long er), .second, .val (.int fg), .val (.long fv), .second, .val (.long tv), .second, .val (.long ev), .second, .val (.int (1 : Int32)), .val (.long b1), .second, .val (.ref pv), .unset] []))
        refine own_st (V := T23.setTop (mkF m 152 #[.val (.long fr), .second, .val (.long a1), .second, .val (.long tr), .second, .val (.long b1), .second, .val (.long er), .second, .val (.int fg), .val (.long fv), .second, .val (.long tv), .second, .val (.long ev), .second, .val (.int (1 : Int32)), .val (.long b1), .second, .val (.ref pv), .unset] [(.long b1), (.ref pv)])) (fun tgt k => ?_) ?_
        · show Steps p.tables e below (T23.setTop (mkF m 143 #[.val (.long fr), .second, .val (.long a1), .second, .val (.long tr), .second, .val (.long b1), .second, .val (.long er), .second, .val (.int fg), .val (.long fv), .second, .val (.long tv), .second, .val (.long ev), .second, .val (.int (1 : Int32)), .val (.long b1), .second, .val (.ref pv), .unset] [])) tgt
          refine XS.iload X23.here hx rfl (hb hby at_143) rfl ?_
          show Steps p.tables e below (T23.setTop (mkF m 145 #[.val (.long fr), .second, .val (.long a1), .second, .val (.long tr), .second, .val (.long b1), .second, .val (.long er), .second, .val (.int fg), .val (.long fv), .second, .val (.long tv), .second, .val (.long ev), .second, .val (.int (1 : Int32)), .val (.long b1), .second, .val (.ref pv), .unset] [(.int (1 : Int32))])) tgt
          refine XS.ifNo X23.here hx rfl (hb hby at_145) rfl ((if0 _ _).trans (feq (by decide : ¬ ((1 : Int32) = (0 : Int32)))).1) ?_
          show Steps p.tables e below (T23.setTop (mkF m 148 #[.val (.long fr), .second, .val (.long a1), .second, .val (.long tr), .second, .val (.long b1), .second, .val (.long er), .second, .val (.int fg), .val (.long fv), .second, .val (.long tv), .second, .val (.long ev), .second, .val (.int (1 : Int32)), .val (.long b1), .second, .val (.ref pv), .unset] [])) tgt
          refine XS.aload X23.here hx rfl (hb hby at_148) rfl rfl ?_
          show Steps p.tables e below (T23.setTop (mkF m 150 #[.val (.long fr), .second, .val (.long a1), .second, .val (.long tr), .second, .val (.long b1), .second, .val (.long er), .second, .val (.int fg), .val (.long fv), .second, .val (.long tv), .second, .val (.long ev), .second, .val (.int (1 : Int32)), .val (.long b1), .second, .val (.ref pv), .unset] [(.ref pv)])) tgt
          refine XS.lload X23.here hx rfl (hb hby at_150) rfl ?_
          exact k
        obtain ⟨cq24, kq24, q24a, q24b, q24c⟩ := isOf hZ rfl g23_0
        obtain ⟨_, _, ⟨T24, L24, k24, n24⟩, -, X24, ⟨Lc24, hQ24, l24, y24, z24⟩, st24⟩ := X23.virtualBack hx (y := (⟨"com/example/headwater/headwater/connectors/ListingPace", "began", "(J)V"⟩ : MethodName)) (z := (⟨"com/example/headwater/headwater/connectors/ListingPace", "began", "(J)V"⟩ : MethodName)) hown (mvT hZ (hw _ (List.mem_of_getElem? (i := 37) rfl))) (mvT hZ (hw _ (List.mem_of_getElem? (i := 38) rfl))) (notFace_of_selects (args := #[]) (mvT hZ (hw _ (List.mem_of_getElem? (i := 40) rfl)))) (mvT hZ (hw _ (List.mem_of_getElem? (i := 40) rfl))) (mvT hZ (hw _ (List.mem_of_getElem? (i := 39) rfl))) (by decide) (backOf (W := 0) (rm7 l Z a0 hw [] pv b1 fv a1 ((a1 + tv) - a1) T23.heap n0 Zs23 g23_0 g23_1 g23_2 g23_3 g_pv) hZ (hw _ (List.mem_of_getElem? (i := 41) rfl)) (hw _ (List.mem_of_getElem? (i := 3) rfl)) (by decide) (by decide)) q24a q24c (g := (mkF m 152 #[.val (.long fr), .second, .val (.long a1), .second, .val (.long tr), .second, .val (.long b1), .second, .val (.long er), .second, .val (.int fg), .val (.long fv), .second, .val (.long tv), .second, .val (.long ev), .second, .val (.int (1 : Int32)), .val (.long b1), .second, .val (.ref pv), .unset] [(.long b1), (.ref pv)])) rfl (by rw [hml]; rfl) (Steps.refl _) (argsL := [(.long b1)]) (rest := []) (lenOf pd_0_2 rfl) rfl (by show 2 * 0 + _ ≤ _; exact Nat.le_of_eq rfl) (hb hby at_152) (fun _ _ => ⟨rfl, rfl, (by decide : 1 + 0 ≤ _), (by decide : 3 + 0 ≤ _)⟩)
        dsimp only [Pt.U, Pt.locs, Pt.cells, Pt.slots] at X24 l24 y24 z24 st24 hQ24
        subst l24 y24 z24
        obtain ⟨rfl, N24q, K24, g24_0, g24_1, g24_2, g24_3⟩ := hQ24
        have N24 := Fr.app N23 N24q
        have E_pv_24 := g23_0.keep K24
        have Zs24 : n0 ≤ T24.heap.size := Nat.le_trans Zs23 K24.1
        refine own_st (fun tgt k => st24.trans k) ?_
        show own_Go p e below _ (T24.setTop (mkF m 155 #[.val (.long fr), .second, .val (.long a1), .second, .val (.long tr), .second, .val (.long b1), .second, .val (.long er), .second, .val (.int fg), .val (.long fv), .second, .val (.long tv), .second, .val (.long ev), .second, .val (.int (1 : Int32)), .val (.long b1), .second, .val (.ref pv), .unset] []))
        refine own_st (V := T24.setTop (mkF m 162 #[.val (.long fr), .second, .val (.long a1), .second, .val (.long tr), .second, .val (.long b1), .second, .val (.long er), .second, .val (.int fg), .val (.long fv), .second, .val (.long tv), .second, .val (.long ev), .second, .val (.int (1 : Int32)), .val (.long b1), .second, .val (.ref pv), .unset] [(.long (b1 + ev)), (.ref pv)])) (fun tgt k => ?_) ?_
        · show Steps p.tables e below (T24.setTop (mkF m 155 #[.val (.long fr), .second, .val (.long a1), .second, .val (.long tr), .second, .val (.long b1), .second, .val (.long er), .second, .val (.int fg), .val (.long fv), .second, .val (.long tv), .second, .val (.long ev), .second, .val (.int (1 : Int32)), .val (.long b1), .second, .val (.ref pv), .unset] [])) tgt
          refine XS.aload X24.here hx rfl (hb hby at_155) rfl rfl ?_
          show Steps p.tables e below (T24.setTop (mkF m 157 #[.val (.long fr), .second, .val (.long a1), .second, .val (.long tr), .second, .val (.long b1), .second, .val (.long er), .second, .val (.int fg), .val (.long fv), .second, .val (.long tv), .second, .val (.long ev), .second, .val (.int (1 : Int32)), .val (.long b1), .second, .val (.ref pv), .unset] [(.ref pv)])) tgt
          refine XS.lload X24.here hx rfl (hb hby at_157) rfl ?_
          show Steps p.tables e below (T24.setTop (mkF m 159 #[.val (.long fr), .second, .val (.long a1), .second, .val (.long tr), .second, .val (.long b1), .second, .val (.long er), .second, .val (.int fg), .val (.long fv), .second, .val (.long tv), .second, .val (.long ev), .second, .val (.int (1 : Int32)), .val (.long b1), .second, .val (.ref pv), .unset] [(.long b1), (.ref pv)])) tgt
          refine XS.lload X24.here hx rfl (hb hby at_159) rfl ?_
          show Steps p.tables e below (T24.setTop (mkF m 161 #[.val (.long fr), .second, .val (.long a1), .second, .val (.long tr), .second, .val (.long b1), .second, .val (.long er), .second, .val (.int fg), .val (.long fv), .second, .val (.long tv), .second, .val (.long ev), .second, .val (.int (1 : Int32)), .val (.long b1), .second, .val (.ref pv), .unset] [(.long ev), (.long b1), (.ref pv)])) tgt
          refine XS.ladd X24.here hx rfl (hb hby at_161) rfl ?_
          exact k
        obtain ⟨cq25, kq25, q25a, q25b, q25c⟩ := isOf hZ rfl g24_0
        obtain ⟨_, _, ⟨T25, L25, k25, n25⟩, -, X25, ⟨Lc25, hQ25, l25, y25, z25⟩, st25⟩ := X24.virtualBack hx (y := (⟨"com/example/headwater/headwater/connectors/ListingPace", "allows", "(J)Z"⟩ : MethodName)) (z := (⟨"com/example/headwater/headwater/connectors/ListingPace", "allows", "(J)Z"⟩ : MethodName)) hown (mvT hZ (hw _ (List.mem_of_getElem? (i := 21) rfl))) (mvT hZ (hw _ (List.mem_of_getElem? (i := 22) rfl))) (notFace_of_selects (args := #[]) (mvT hZ (hw _ (List.mem_of_getElem? (i := 24) rfl)))) (mvT hZ (hw _ (List.mem_of_getElem? (i := 24) rfl))) (mvT hZ (hw _ (List.mem_of_getElem? (i := 23) rfl))) (by decide) (backOf (W := 0) (rm4 l Z a0 hw [] pv (b1 + ev) fv b1 ((a1 + tv) - a1) T24.heap n0 Zs24 g24_0 g24_1 g24_2 g24_3 (own_nz64 hf1)) hZ (hw _ (List.mem_of_getElem? (i := 25) rfl)) (hw _ (List.mem_of_getElem? (i := 3) rfl)) (by decide) (by decide)) q25a q25c (g := (mkF m 162 #[.val (.long fr), .second, .val (.long a1), .second, .val (.long tr), .second, .val (.long b1), .second, .val (.long er), .second, .val (.int fg), .val (.long fv), .second, .val (.long tv), .second, .val (.long ev), .second, .val (.int (1 : Int32)), .val (.long b1), .second, .val (.ref pv), .unset] [(.long (b1 + ev)), (.ref pv)])) rfl (by rw [hml]; rfl) (Steps.refl _) (argsL := [(.long (b1 + ev))]) (rest := []) (lenOf pd_0_3 rfl) rfl (by show 2 * 0 + _ ≤ _; exact Nat.le_of_eq rfl) (hb hby at_162) (fun _ _ => ⟨rfl, rfl, (by decide : 1 + 0 ≤ _), (by decide : 3 + 0 ≤ _)⟩)
        dsimp only [Pt.U, Pt.locs, Pt.cells, Pt.slots] at X25 l25 y25 z25 st25 hQ25
        subst l25 y25 z25
        obtain ⟨rfl, N25q, K25⟩ := hQ25
        have N25 := Fr.app N24 N25q
        refine own_st (fun tgt k => st25.trans k) ?_
        show own_Go p e below _ (T25.setTop (mkF m 165 #[.val (.long fr), .second, .val (.long a1), .second, .val (.long tr), .second, .val (.long b1), .second, .val (.long er), .second, .val (.int fg), .val (.long fv), .second, .val (.long tv), .second, .val (.long ev), .second, .val (.int (1 : Int32)), .val (.long b1), .second, .val (.ref pv), .unset] [(.int (own_A fv b1 ((a1 + tv) - a1) (b1 + ev)))]))
        refine own_st (V := T25.setTop (mkF m 175 #[.val (.long fr), .second, .val (.long a1), .second, .val (.long tr), .second, .val (.long b1), .second, .val (.long er), .second, .val (.int fg), .val (.long fv), .second, .val (.long tv), .second, .val (.long ev), .second, .val (.int (1 : Int32)), .val (.long b1), .second, .val (.ref pv), .val (.int (own_A fv b1 ((a1 + tv) - a1) (b1 + ev)))] [(.long ev), (.long tv), (.long fv), (.int (own_A fv b1 ((a1 + tv) - a1) (b1 + ev)))])) (fun tgt k => ?_) ?_
        · show Steps p.tables e below (T25.setTop (mkF m 165 #[.val (.long fr), .second, .val (.long a1), .second, .val (.long tr), .second, .val (.long b1), .second, .val (.long er), .second, .val (.int fg), .val (.long fv), .second, .val (.long tv), .second, .val (.long ev), .second, .val (.int (1 : Int32)), .val (.long b1), .second, .val (.ref pv), .unset] [(.int (own_A fv b1 ((a1 + tv) - a1) (b1 + ev)))])) tgt
          refine XS.istore X25.here hx rfl (hb hby at_165) rfl (l' := #[.val (.long fr), .second, .val (.long a1), .second, .val (.long tr), .second, .val (.long b1), .second, .val (.long er), .second, .val (.int fg), .val (.long fv), .second, .val (.long tv), .second, .val (.long ev), .second, .val (.int (1 : Int32)), .val (.long b1), .second, .val (.ref pv), .val (.int (own_A fv b1 ((a1 + tv) - a1) (b1 + ev)))]) rfl ?_
          show Steps p.tables e below (T25.setTop (mkF m 167 #[.val (.long fr), .second, .val (.long a1), .second, .val (.long tr), .second, .val (.long b1), .second, .val (.long er), .second, .val (.int fg), .val (.long fv), .second, .val (.long tv), .second, .val (.long ev), .second, .val (.int (1 : Int32)), .val (.long b1), .second, .val (.ref pv), .val (.int (own_A fv b1 ((a1 + tv) - a1) (b1 + ev)))] [])) tgt
          refine XS.iload X25.here hx rfl (hb hby at_167) rfl ?_
          show Steps p.tables e below (T25.setTop (mkF m 169 #[.val (.long fr), .second, .val (.long a1), .second, .val (.long tr), .second, .val (.long b1), .second, .val (.long er), .second, .val (.int fg), .val (.long fv), .second, .val (.long tv), .second, .val (.long ev), .second, .val (.int (1 : Int32)), .val (.long b1), .second, .val (.ref pv), .val (.int (own_A fv b1 ((a1 + tv) - a1) (b1 + ev)))] [(.int (own_A fv b1 ((a1 + tv) - a1) (b1 + ev)))])) tgt
          refine XS.lload X25.here hx rfl (hb hby at_169) rfl ?_
          show Steps p.tables e below (T25.setTop (mkF m 171 #[.val (.long fr), .second, .val (.long a1), .second, .val (.long tr), .second, .val (.long b1), .second, .val (.long er), .second, .val (.int fg), .val (.long fv), .second, .val (.long tv), .second, .val (.long ev), .second, .val (.int (1 : Int32)), .val (.long b1), .second, .val (.ref pv), .val (.int (own_A fv b1 ((a1 + tv) - a1) (b1 + ev)))] [(.long fv), (.int (own_A fv b1 ((a1 + tv) - a1) (b1 + ev)))])) tgt
          refine XS.lload X25.here hx rfl (hb hby at_171) rfl ?_
          show Steps p.tables e below (T25.setTop (mkF m 173 #[.val (.long fr), .second, .val (.long a1), .second, .val (.long tr), .second, .val (.long b1), .second, .val (.long er), .second, .val (.int fg), .val (.long fv), .second, .val (.long tv), .second, .val (.long ev), .second, .val (.int (1 : Int32)), .val (.long b1), .second, .val (.ref pv), .val (.int (own_A fv b1 ((a1 + tv) - a1) (b1 + ev)))] [(.long tv), (.long fv), (.int (own_A fv b1 ((a1 + tv) - a1) (b1 + ev)))])) tgt
          refine XS.lload X25.here hx rfl (hb hby at_173) rfl ?_
          exact k
        obtain ⟨_, _, ⟨T26, L26, k26, n26⟩, -, X26, ⟨Lc26, hQ26, l26, y26, z26⟩, st26⟩ := Jvm.LawKit.callS X25 hx (y := (⟨"com/example/headwater/headwater/connectors/ListingPaceAllowsPinLaw", "expected", "(JJJ)Z"⟩ : MethodName)) hown (mvT hZ (hw _ (List.mem_of_getElem? (i := 26) rfl))) (mvT hZ (hw _ (List.mem_of_getElem? (i := 27) rfl))) (mvT hZ (hw _ (List.mem_of_getElem? (i := 28) rfl))) (mvT hZ (hw _ (List.mem_of_getElem? (i := 29) rfl))) (by decide) (backOf (W := 1) (rm5 l Z a0 hw [] fv tv ev T24.heap n0 Zs24 ) hZ (hw _ (List.mem_of_getElem? (i := 29) rfl)) (hw _ (List.mem_of_getElem? (i := 28) rfl)) (by decide) (by decide)) (g := (mkF m 175 #[.val (.long fr), .second, .val (.long a1), .second, .val (.long tr), .second, .val (.long b1), .second, .val (.long er), .second, .val (.int fg), .val (.long fv), .second, .val (.long tv), .second, .val (.long ev), .second, .val (.int (1 : Int32)), .val (.long b1), .second, .val (.ref pv), .val (.int (own_A fv b1 ((a1 + tv) - a1) (b1 + ev)))] [(.long ev), (.long tv), (.long fv), (.int (own_A fv b1 ((a1 + tv) - a1) (b1 + ev)))])) rfl (by rw [hml]; rfl) (argsL := [(.long fv), (.long tv), (.long ev)]) (rest := [(.int (own_A fv b1 ((a1 + tv) - a1) (b1 + ev)))]) (lenOf pd_0_4 rfl) rfl (by show 2 * 0 + _ ≤ _; exact Nat.le_of_eq rfl) (hb hby at_175) (fun _ _ => ⟨rfl, K25, (by decide : 1 + 0 ≤ _), (by decide : 3 + 0 ≤ _)⟩)
        dsimp only [Pt.U, Pt.locs, Pt.cells, Pt.slots] at X26 l26 y26 z26 st26 hQ26
        subst l26 y26 z26
        obtain ⟨rfl, N26q, K26⟩ := hQ26
        have N26 := Fr.app N25 N26q
        refine own_st st26 ?_
        show own_Go p e below _ (T26.setTop (mkF m 178 #[.val (.long fr), .second, .val (.long a1), .second, .val (.long tr), .second, .val (.long b1), .second, .val (.long er), .second, .val (.int fg), .val (.long fv), .second, .val (.long tv), .second, .val (.long ev), .second, .val (.int (1 : Int32)), .val (.long b1), .second, .val (.ref pv), .val (.int (own_A fv b1 ((a1 + tv) - a1) (b1 + ev)))] [(.int (own_E fv tv ev)), (.int (own_A fv b1 ((a1 + tv) - a1) (b1 + ev)))]))
        refine own_st (V := T26.setTop (mkF m 186 #[.val (.long fr), .second, .val (.long a1), .second, .val (.long tr), .second, .val (.long b1), .second, .val (.long er), .second, .val (.int fg), .val (.long fv), .second, .val (.long tv), .second, .val (.long ev), .second, .val (.int (1 : Int32)), .val (.long b1), .second, .val (.ref pv), .val (.int (own_A fv b1 ((a1 + tv) - a1) (b1 + ev)))] [(.int (1 : Int32))])) (fun tgt k => ?_) ?_
        · show Steps p.tables e below (T26.setTop (mkF m 178 #[.val (.long fr), .second, .val (.long a1), .second, .val (.long tr), .second, .val (.long b1), .second, .val (.long er), .second, .val (.int fg), .val (.long fv), .second, .val (.long tv), .second, .val (.long ev), .second, .val (.int (1 : Int32)), .val (.long b1), .second, .val (.ref pv), .val (.int (own_A fv b1 ((a1 + tv) - a1) (b1 + ev)))] [(.int (own_E fv tv ev)), (.int (own_A fv b1 ((a1 + tv) - a1) (b1 + ev)))])) tgt
          refine XS.icmpNo X26.here hx rfl (hb hby at_178) rfl (teq (own_law _ _ _ _ _ hf1 ht0 he0)).2 ?_
          show Steps p.tables e below (T26.setTop (mkF m 181 #[.val (.long fr), .second, .val (.long a1), .second, .val (.long tr), .second, .val (.long b1), .second, .val (.long er), .second, .val (.int fg), .val (.long fv), .second, .val (.long tv), .second, .val (.long ev), .second, .val (.int (1 : Int32)), .val (.long b1), .second, .val (.ref pv), .val (.int (own_A fv b1 ((a1 + tv) - a1) (b1 + ev)))] [])) tgt
          refine XS.iconst X26.here hx rfl (hb hby at_181) ?_
          show Steps p.tables e below (T26.setTop (mkF m 182 #[.val (.long fr), .second, .val (.long a1), .second, .val (.long tr), .second, .val (.long b1), .second, .val (.long er), .second, .val (.int fg), .val (.long fv), .second, .val (.long tv), .second, .val (.long ev), .second, .val (.int (1 : Int32)), .val (.long b1), .second, .val (.ref pv), .val (.int (own_A fv b1 ((a1 + tv) - a1) (b1 + ev)))] [(.int (1 : Int32))])) tgt
          refine XS.goto X26.here hx rfl (pc0 := 182) (pc' := 186) rfl (hb hby at_182) (by decide) (by decide) ?_
          exact k
        refine own_retN X26 hx hlk (t := .boolean) (z' := (1 : Int32)) Bd.returns (by simp) rfl (hb hby at_186) ?_ (by decide) (by decide)
        show Q0 Z fr a1 tr b1 er fg h0 n0 (some (.int (1 : Int32))) T26.heap _
        rw [K26]
        exact ⟨rfl, N26⟩
  · skip
    refine own_st (V := s₁.setTop (mkF m 16 #[.val (.long fr), .second, .val (.long a1), .second, .val (.long tr), .second, .val (.long b1), .second, .val (.long er), .second, .val (.int fg), .val (.long ((fr &&& (65535 : Int64)) + (1 : Int64))), .second, .unset, .unset, .unset, .unset, .unset, .unset, .unset, .unset, .unset] [])) (fun tgt k => ?_) ?_
    · show Steps p.tables e below (s₁.setTop (mkF m 4 #[.val (.long fr), .second, .val (.long a1), .second, .val (.long tr), .second, .val (.long b1), .second, .val (.long er), .second, .val (.int fg), .unset, .unset, .unset, .unset, .unset, .unset, .unset, .unset, .unset, .unset, .unset] [(.int (fg &&& (4 : Int32)))])) tgt
      refine XS.ifNo X0.here hx rfl (hb hby at_4) rfl ((if0 _ _).trans (feq hc4).1) ?_
      show Steps p.tables e below (s₁.setTop (mkF m 7 #[.val (.long fr), .second, .val (.long a1), .second, .val (.long tr), .second, .val (.long b1), .second, .val (.long er), .second, .val (.int fg), .unset, .unset, .unset, .unset, .unset, .unset, .unset, .unset, .unset, .unset, .unset] [])) tgt
      refine XS.lloadN X0.here hx rfl (hb hby at_7) rfl ?_
      show Steps p.tables e below (s₁.setTop (mkF m 8 #[.val (.long fr), .second, .val (.long a1), .second, .val (.long tr), .second, .val (.long b1), .second, .val (.long er), .second, .val (.int fg), .unset, .unset, .unset, .unset, .unset, .unset, .unset, .unset, .unset, .unset, .unset] [(.long fr)])) tgt
      refine X0.ldc2Long hx hown (mvT hZ (hw _ (List.mem_of_getElem? (i := 30) rfl))) (g := (mkF m 8 #[.val (.long fr), .second, .val (.long a1), .second, .val (.long tr), .second, .val (.long b1), .second, .val (.long er), .second, .val (.int fg), .unset, .unset, .unset, .unset, .unset, .unset, .unset, .unset, .unset, .unset, .unset] [(.long fr)])) rfl (hb hby at_8) _ ?_
      show Steps p.tables e below (s₁.setTop (mkF m 11 #[.val (.long fr), .second, .val (.long a1), .second, .val (.long tr), .second, .val (.long b1), .second, .val (.long er), .second, .val (.int fg), .unset, .unset, .unset, .unset, .unset, .unset, .unset, .unset, .unset, .unset, .unset] [(.long (65535 : Int64)), (.long fr)])) tgt
      refine XS.land X0.here hx rfl (hb hby at_11) rfl ?_
      show Steps p.tables e below (s₁.setTop (mkF m 12 #[.val (.long fr), .second, .val (.long a1), .second, .val (.long tr), .second, .val (.long b1), .second, .val (.long er), .second, .val (.int fg), .unset, .unset, .unset, .unset, .unset, .unset, .unset, .unset, .unset, .unset, .unset] [(.long (fr &&& (65535 : Int64)))])) tgt
      refine XS.lconst X0.here hx rfl (hb hby at_12) ?_
      show Steps p.tables e below (s₁.setTop (mkF m 13 #[.val (.long fr), .second, .val (.long a1), .second, .val (.long tr), .second, .val (.long b1), .second, .val (.long er), .second, .val (.int fg), .unset, .unset, .unset, .unset, .unset, .unset, .unset, .unset, .unset, .unset, .unset] [(.long (1 : Int64)), (.long (fr &&& (65535 : Int64)))])) tgt
      refine XS.ladd X0.here hx rfl (hb hby at_13) rfl ?_
      show Steps p.tables e below (s₁.setTop (mkF m 14 #[.val (.long fr), .second, .val (.long a1), .second, .val (.long tr), .second, .val (.long b1), .second, .val (.long er), .second, .val (.int fg), .unset, .unset, .unset, .unset, .unset, .unset, .unset, .unset, .unset, .unset, .unset] [(.long ((fr &&& (65535 : Int64)) + (1 : Int64)))])) tgt
      refine XS.lstore X0.here hx rfl (hb hby at_14) rfl (l' := #[.val (.long fr), .second, .val (.long a1), .second, .val (.long tr), .second, .val (.long b1), .second, .val (.long er), .second, .val (.int fg), .val (.long ((fr &&& (65535 : Int64)) + (1 : Int64))), .second, .unset, .unset, .unset, .unset, .unset, .unset, .unset, .unset, .unset]) rfl ?_
      exact k
    obtain ⟨fv, hfv⟩ : ∃ z : Int64, z = ((fr &&& (65535 : Int64)) + (1 : Int64)) := ⟨_, rfl⟩
    rw [← hfv]
    have hf1 : 1 ≤ fv.toInt := by rw [hfv]; exact own_f1 fr
    refine own_st (V := s₁.setTop (mkF m 24 #[.val (.long fr), .second, .val (.long a1), .second, .val (.long tr), .second, .val (.long b1), .second, .val (.long er), .second, .val (.int fg), .val (.long fv), .second, .val (.long (tr &&& (65535 : Int64))), .second, .unset, .unset, .unset, .unset, .unset, .unset, .unset] [])) (fun tgt k => ?_) ?_
    · show Steps p.tables e below (s₁.setTop (mkF m 16 #[.val (.long fr), .second, .val (.long a1), .second, .val (.long tr), .second, .val (.long b1), .second, .val (.long er), .second, .val (.int fg), .val (.long fv), .second, .unset, .unset, .unset, .unset, .unset, .unset, .unset, .unset, .unset] [])) tgt
      refine XS.lload X0.here hx rfl (hb hby at_16) rfl ?_
      show Steps p.tables e below (s₁.setTop (mkF m 18 #[.val (.long fr), .second, .val (.long a1), .second, .val (.long tr), .second, .val (.long b1), .second, .val (.long er), .second, .val (.int fg), .val (.long fv), .second, .unset, .unset, .unset, .unset, .unset, .unset, .unset, .unset, .unset] [(.long tr)])) tgt
      refine X0.ldc2Long hx hown (mvT hZ (hw _ (List.mem_of_getElem? (i := 30) rfl))) (g := (mkF m 18 #[.val (.long fr), .second, .val (.long a1), .second, .val (.long tr), .second, .val (.long b1), .second, .val (.long er), .second, .val (.int fg), .val (.long fv), .second, .unset, .unset, .unset, .unset, .unset, .unset, .unset, .unset, .unset] [(.long tr)])) rfl (hb hby at_18) _ ?_
      show Steps p.tables e below (s₁.setTop (mkF m 21 #[.val (.long fr), .second, .val (.long a1), .second, .val (.long tr), .second, .val (.long b1), .second, .val (.long er), .second, .val (.int fg), .val (.long fv), .second, .unset, .unset, .unset, .unset, .unset, .unset, .unset, .unset, .unset] [(.long (65535 : Int64)), (.long tr)])) tgt
      refine XS.land X0.here hx rfl (hb hby at_21) rfl ?_
      show Steps p.tables e below (s₁.setTop (mkF m 22 #[.val (.long fr), .second, .val (.long a1), .second, .val (.long tr), .second, .val (.long b1), .second, .val (.long er), .second, .val (.int fg), .val (.long fv), .second, .unset, .unset, .unset, .unset, .unset, .unset, .unset, .unset, .unset] [(.long (tr &&& (65535 : Int64)))])) tgt
      refine XS.lstore X0.here hx rfl (hb hby at_22) rfl (l' := #[.val (.long fr), .second, .val (.long a1), .second, .val (.long tr), .second, .val (.long b1), .second, .val (.long er), .second, .val (.int fg), .val (.long fv), .second, .val (.long (tr &&& (65535 : Int64))), .second, .unset, .unset, .unset, .unset, .unset, .unset, .unset]) rfl ?_
      exact k
    obtain ⟨tv, htv⟩ : ∃ z : Int64, z = (tr &&& (65535 : Int64)) := ⟨_, rfl⟩
    rw [← htv]
    have ht0 : 0 ≤ tv.toInt := by rw [htv]; exact own_t0 tr
    refine own_st (V := s₁.setTop (mkF m 36 #[.val (.long fr), .second, .val (.long a1), .second, .val (.long tr), .second, .val (.long b1), .second, .val (.long er), .second, .val (.int fg), .val (.long fv), .second, .val (.long tv), .second, .unset, .unset, .val (.long ((er &&& (3 : Int64)) - (2 : Int64))), .second, .unset, .unset, .unset] [])) (fun tgt k => ?_) ?_
    · show Steps p.tables e below (s₁.setTop (mkF m 24 #[.val (.long fr), .second, .val (.long a1), .second, .val (.long tr), .second, .val (.long b1), .second, .val (.long er), .second, .val (.int fg), .val (.long fv), .second, .val (.long tv), .second, .unset, .unset, .unset, .unset, .unset, .unset, .unset] [])) tgt
      refine XS.lload X0.here hx rfl (hb hby at_24) rfl ?_
      show Steps p.tables e below (s₁.setTop (mkF m 26 #[.val (.long fr), .second, .val (.long a1), .second, .val (.long tr), .second, .val (.long b1), .second, .val (.long er), .second, .val (.int fg), .val (.long fv), .second, .val (.long tv), .second, .unset, .unset, .unset, .unset, .unset, .unset, .unset] [(.long er)])) tgt
      refine X0.ldc2Long hx hown (mvT hZ (hw _ (List.mem_of_getElem? (i := 31) rfl))) (g := (mkF m 26 #[.val (.long fr), .second, .val (.long a1), .second, .val (.long tr), .second, .val (.long b1), .second, .val (.long er), .second, .val (.int fg), .val (.long fv), .second, .val (.long tv), .second, .unset, .unset, .unset, .unset, .unset, .unset, .unset] [(.long er)])) rfl (hb hby at_26) _ ?_
      show Steps p.tables e below (s₁.setTop (mkF m 29 #[.val (.long fr), .second, .val (.long a1), .second, .val (.long tr), .second, .val (.long b1), .second, .val (.long er), .second, .val (.int fg), .val (.long fv), .second, .val (.long tv), .second, .unset, .unset, .unset, .unset, .unset, .unset, .unset] [(.long (3 : Int64)), (.long er)])) tgt
      refine XS.land X0.here hx rfl (hb hby at_29) rfl ?_
      show Steps p.tables e below (s₁.setTop (mkF m 30 #[.val (.long fr), .second, .val (.long a1), .second, .val (.long tr), .second, .val (.long b1), .second, .val (.long er), .second, .val (.int fg), .val (.long fv), .second, .val (.long tv), .second, .unset, .unset, .unset, .unset, .unset, .unset, .unset] [(.long (er &&& (3 : Int64)))])) tgt
      refine X0.ldc2Long hx hown (mvT hZ (hw _ (List.mem_of_getElem? (i := 32) rfl))) (g := (mkF m 30 #[.val (.long fr), .second, .val (.long a1), .second, .val (.long tr), .second, .val (.long b1), .second, .val (.long er), .second, .val (.int fg), .val (.long fv), .second, .val (.long tv), .second, .unset, .unset, .unset, .unset, .unset, .unset, .unset] [(.long (er &&& (3 : Int64)))])) rfl (hb hby at_30) _ ?_
      show Steps p.tables e below (s₁.setTop (mkF m 33 #[.val (.long fr), .second, .val (.long a1), .second, .val (.long tr), .second, .val (.long b1), .second, .val (.long er), .second, .val (.int fg), .val (.long fv), .second, .val (.long tv), .second, .unset, .unset, .unset, .unset, .unset, .unset, .unset] [(.long (2 : Int64)), (.long (er &&& (3 : Int64)))])) tgt
      refine XS.lsub X0.here hx rfl (hb hby at_33) rfl ?_
      show Steps p.tables e below (s₁.setTop (mkF m 34 #[.val (.long fr), .second, .val (.long a1), .second, .val (.long tr), .second, .val (.long b1), .second, .val (.long er), .second, .val (.int fg), .val (.long fv), .second, .val (.long tv), .second, .unset, .unset, .unset, .unset, .unset, .unset, .unset] [(.long ((er &&& (3 : Int64)) - (2 : Int64)))])) tgt
      refine XS.lstore X0.here hx rfl (hb hby at_34) rfl (l' := #[.val (.long fr), .second, .val (.long a1), .second, .val (.long tr), .second, .val (.long b1), .second, .val (.long er), .second, .val (.int fg), .val (.long fv), .second, .val (.long tv), .second, .unset, .unset, .val (.long ((er &&& (3 : Int64)) - (2 : Int64))), .second, .unset, .unset, .unset]) rfl ?_
      exact k
    obtain ⟨gv, hgv⟩ : ∃ z : Int64, z = ((er &&& (3 : Int64)) - (2 : Int64)) := ⟨_, rfl⟩
    rw [← hgv]
    refine own_st (V := s₁.setTop (mkF m 45 #[.val (.long fr), .second, .val (.long a1), .second, .val (.long tr), .second, .val (.long b1), .second, .val (.long er), .second, .val (.int fg), .val (.long fv), .second, .val (.long tv), .second, .unset, .unset, .val (.long gv), .second, .unset, .unset, .unset] [(.long ((tv * fv) + gv)), (.long (0 : Int64))])) (fun tgt k => ?_) ?_
    · show Steps p.tables e below (s₁.setTop (mkF m 36 #[.val (.long fr), .second, .val (.long a1), .second, .val (.long tr), .second, .val (.long b1), .second, .val (.long er), .second, .val (.int fg), .val (.long fv), .second, .val (.long tv), .second, .unset, .unset, .val (.long gv), .second, .unset, .unset, .unset] [])) tgt
      refine XS.lconst X0.here hx rfl (hb hby at_36) ?_
      show Steps p.tables e below (s₁.setTop (mkF m 37 #[.val (.long fr), .second, .val (.long a1), .second, .val (.long tr), .second, .val (.long b1), .second, .val (.long er), .second, .val (.int fg), .val (.long fv), .second, .val (.long tv), .second, .unset, .unset, .val (.long gv), .second, .unset, .unset, .unset] [(.long (0 : Int64))])) tgt
      refine XS.lload X0.here hx rfl (hb hby at_37) rfl ?_
      show Steps p.tables e below (s₁.setTop (mkF m 39 #[.val (.long fr), .second, .val (.long a1), .second, .val (.long tr), .second, .val (.long b1), .second, .val (.long er), .second, .val (.int fg), .val (.long fv), .second, .val (.long tv), .second, .unset, .unset, .val (.long gv), .second, .unset, .unset, .unset] [(.long tv), (.long (0 : Int64))])) tgt
      refine XS.lload X0.here hx rfl (hb hby at_39) rfl ?_
      show Steps p.tables e below (s₁.setTop (mkF m 41 #[.val (.long fr), .second, .val (.long a1), .second, .val (.long tr), .second, .val (.long b1), .second, .val (.long er), .second, .val (.int fg), .val (.long fv), .second, .val (.long tv), .second, .unset, .unset, .val (.long gv), .second, .unset, .unset, .unset] [(.long fv), (.long tv), (.long (0 : Int64))])) tgt
      refine XS.lmul X0.here hx rfl (hb hby at_41) rfl ?_
      show Steps p.tables e below (s₁.setTop (mkF m 42 #[.val (.long fr), .second, .val (.long a1), .second, .val (.long tr), .second, .val (.long b1), .second, .val (.long er), .second, .val (.int fg), .val (.long fv), .second, .val (.long tv), .second, .unset, .unset, .val (.long gv), .second, .unset, .unset, .unset] [(.long (tv * fv)), (.long (0 : Int64))])) tgt
      refine XS.lload X0.here hx rfl (hb hby at_42) rfl ?_
      show Steps p.tables e below (s₁.setTop (mkF m 44 #[.val (.long fr), .second, .val (.long a1), .second, .val (.long tr), .second, .val (.long b1), .second, .val (.long er), .second, .val (.int fg), .val (.long fv), .second, .val (.long tv), .second, .unset, .unset, .val (.long gv), .second, .unset, .unset, .unset] [(.long gv), (.long (tv * fv)), (.long (0 : Int64))])) tgt
      refine XS.ladd X0.here hx rfl (hb hby at_44) rfl ?_
      exact k
    obtain ⟨_, _, ⟨T28, L28, k28, n28⟩, -, X28, ⟨Lc28, hQ28, l28, y28, z28⟩, st28⟩ := Jvm.LawKit.callS X0 hx (y := (⟨"java/lang/Math", "max", "(JJ)J"⟩ : MethodName)) hown (mvT hZ (hw _ (List.mem_of_getElem? (i := 33) rfl))) (mvT hZ (hw _ (List.mem_of_getElem? (i := 34) rfl))) (mvT hZ (hw _ (List.mem_of_getElem? (i := 35) rfl))) (mvT hZ (hw _ (List.mem_of_getElem? (i := 36) rfl))) (by decide) (backOf (W := 0) (rm6 l Z a0 hw [] (0 : Int64) ((tv * fv) + gv) h0 n0 Z0 ) hZ (hw _ (List.mem_of_getElem? (i := 36) rfl)) (hw _ (List.mem_of_getElem? (i := 35) rfl)) (by decide) (by decide)) (g := (mkF m 45 #[.val (.long fr), .second, .val (.long a1), .second, .val (.long tr), .second, .val (.long b1), .second, .val (.long er), .second, .val (.int fg), .val (.long fv), .second, .val (.long tv), .second, .unset, .unset, .val (.long gv), .second, .unset, .unset, .unset] [(.long ((tv * fv) + gv)), (.long (0 : Int64))])) rfl (by rw [hml]; rfl) (argsL := [(.long (0 : Int64)), (.long ((tv * fv) + gv))]) (rest := []) (lenOf pd_0_0 rfl) rfl (by show 2 * 0 + _ ≤ _; exact Nat.le_of_eq rfl) (hb hby at_45) (fun _ _ => ⟨rfl, e0, (by decide : 0 + 0 ≤ _), (by decide : 0 + 0 ≤ _)⟩)
    dsimp only [Pt.U, Pt.locs, Pt.cells, Pt.slots] at X28 l28 y28 z28 st28 hQ28
    subst l28 y28 z28
    obtain ⟨rfl, N28q, K28⟩ := hQ28
    have N28 := Fr.app N0 N28q
    refine own_st st28 ?_
    show own_Go p e below _ (T28.setTop (mkF m 48 #[.val (.long fr), .second, .val (.long a1), .second, .val (.long tr), .second, .val (.long b1), .second, .val (.long er), .second, .val (.int fg), .val (.long fv), .second, .val (.long tv), .second, .unset, .unset, .val (.long gv), .second, .unset, .unset, .unset] [(.long (own_mx (0 : Int64) ((tv * fv) + gv)))]))
    refine own_st (V := T28.setTop (mkF m 50 #[.val (.long fr), .second, .val (.long a1), .second, .val (.long tr), .second, .val (.long b1), .second, .val (.long er), .second, .val (.int fg), .val (.long fv), .second, .val (.long tv), .second, .val (.long (own_mx (0 : Int64) ((tv * fv) + gv))), .second, .val (.long gv), .second, .unset, .unset, .unset] [])) (fun tgt k => ?_) ?_
    · show Steps p.tables e below (T28.setTop (mkF m 48 #[.val (.long fr), .second, .val (.long a1), .second, .val (.long tr), .second, .val (.long b1), .second, .val (.long er), .second, .val (.int fg), .val (.long fv), .second, .val (.long tv), .second, .unset, .unset, .val (.long gv), .second, .unset, .unset, .unset] [(.long (own_mx (0 : Int64) ((tv * fv) + gv)))])) tgt
      refine XS.lstore X28.here hx rfl (hb hby at_48) rfl (l' := #[.val (.long fr), .second, .val (.long a1), .second, .val (.long tr), .second, .val (.long b1), .second, .val (.long er), .second, .val (.int fg), .val (.long fv), .second, .val (.long tv), .second, .val (.long (own_mx (0 : Int64) ((tv * fv) + gv))), .second, .val (.long gv), .second, .unset, .unset, .unset]) rfl ?_
      exact k
    obtain ⟨ev, hev⟩ : ∃ z : Int64, z = (own_mx (0 : Int64) ((tv * fv) + gv)) := ⟨_, rfl⟩
    rw [← hev]
    have he0 : 0 ≤ ev.toInt := by rw [hev]; exact own_mx0 _
    refine own_st (V := T28.setTop (mkF m 99 #[.val (.long fr), .second, .val (.long a1), .second, .val (.long tr), .second, .val (.long b1), .second, .val (.long er), .second, .val (.int fg), .val (.long fv), .second, .val (.long tv), .second, .val (.long ev), .second, .val (.long gv), .second, .unset, .unset, .unset] [(.int (fg &&& (1 : Int32)))])) (fun tgt k => ?_) ?_
    · show Steps p.tables e below (T28.setTop (mkF m 50 #[.val (.long fr), .second, .val (.long a1), .second, .val (.long tr), .second, .val (.long b1), .second, .val (.long er), .second, .val (.int fg), .val (.long fv), .second, .val (.long tv), .second, .val (.long ev), .second, .val (.long gv), .second, .unset, .unset, .unset] [])) tgt
      refine XS.goto X28.here hx rfl (pc0 := 50) (pc' := 95) rfl (hb hby at_50) (by decide) (by decide) ?_
      show Steps p.tables e below (T28.setTop (mkF m 95 #[.val (.long fr), .second, .val (.long a1), .second, .val (.long tr), .second, .val (.long b1), .second, .val (.long er), .second, .val (.int fg), .val (.long fv), .second, .val (.long tv), .second, .val (.long ev), .second, .val (.long gv), .second, .unset, .unset, .unset] [])) tgt
      refine XS.iload X28.here hx rfl (hb hby at_95) rfl ?_
      show Steps p.tables e below (T28.setTop (mkF m 97 #[.val (.long fr), .second, .val (.long a1), .second, .val (.long tr), .second, .val (.long b1), .second, .val (.long er), .second, .val (.int fg), .val (.long fv), .second, .val (.long tv), .second, .val (.long ev), .second, .val (.long gv), .second, .unset, .unset, .unset] [(.int fg)])) tgt
      refine XS.iconst X28.here hx rfl (hb hby at_97) ?_
      show Steps p.tables e below (T28.setTop (mkF m 98 #[.val (.long fr), .second, .val (.long a1), .second, .val (.long tr), .second, .val (.long b1), .second, .val (.long er), .second, .val (.int fg), .val (.long fv), .second, .val (.long tv), .second, .val (.long ev), .second, .val (.long gv), .second, .unset, .unset, .unset] [(.int (1 : Int32)), (.int fg)])) tgt
      refine XS.iand X28.here hx rfl (hb hby at_98) rfl ?_
      exact k
    by_cases hc99 : (fg &&& (1 : Int32)) = (0 : Int32)
    · skip
      refine own_st (V := T28.setTop (mkF m 122 #[.val (.long fr), .second, .val (.long a1), .second, .val (.long tr), .second, .val (.long b1), .second, .val (.long er), .second, .val (.int fg), .val (.long fv), .second, .val (.long tv), .second, .val (.long ev), .second, .val (.int (0 : Int32)), .val (.long a1), .second, .unset, .unset] [])) (fun tgt k => ?_) ?_
      · show Steps p.tables e below (T28.setTop (mkF m 99 #[.val (.long fr), .second, .val (.long a1), .second, .val (.long tr), .second, .val (.long b1), .second, .val (.long er), .second, .val (.int fg), .val (.long fv), .second, .val (.long tv), .second, .val (.long ev), .second, .val (.long gv), .second, .unset, .unset, .unset] [(.int (fg &&& (1 : Int32)))])) tgt
        refine XS.ifYes X28.here hx rfl (pc0 := 99) (pc' := 106) rfl (hb hby at_99) rfl ((if0 _ _).trans (teq hc99).1) (by decide) (by decide) ?_
        show Steps p.tables e below (T28.setTop (mkF m 106 #[.val (.long fr), .second, .val (.long a1), .second, .val (.long tr), .second, .val (.long b1), .second, .val (.long er), .second, .val (.int fg), .val (.long fv), .second, .val (.long tv), .second, .val (.long ev), .second, .val (.long gv), .second, .unset, .unset, .unset] [])) tgt
        refine XS.iconst X28.here hx rfl (hb hby at_106) ?_
        show Steps p.tables e below (T28.setTop (mkF m 107 #[.val (.long fr), .second, .val (.long a1), .second, .val (.long tr), .second, .val (.long b1), .second, .val (.long er), .second, .val (.int fg), .val (.long fv), .second, .val (.long tv), .second, .val (.long ev), .second, .val (.long gv), .second, .unset, .unset, .unset] [(.int (0 : Int32))])) tgt
        refine XS.istore X28.here hx rfl (hb hby at_107) rfl (l' := #[.val (.long fr), .second, .val (.long a1), .second, .val (.long tr), .second, .val (.long b1), .second, .val (.long er), .second, .val (.int fg), .val (.long fv), .second, .val (.long tv), .second, .val (.long ev), .second, .val (.int (0 : Int32)), .unset, .unset, .unset, .unset]) rfl ?_
        show Steps p.tables e below (T28.setTop (mkF m 109 #[.val (.long fr), .second, .val (.long a1), .second, .val (.long tr), .second, .val (.long b1), .second, .val (.long er), .second, .val (.int fg), .val (.long fv), .second, .val (.long tv), .second, .val (.long ev), .second, .val (.int (0 : Int32)), .unset, .unset, .unset, .unset] [])) tgt
        refine XS.iload X28.here hx rfl (hb hby at_109) rfl ?_
        show Steps p.tables e below (T28.setTop (mkF m 111 #[.val (.long fr), .second, .val (.long a1), .second, .val (.long tr), .second, .val (.long b1), .second, .val (.long er), .second, .val (.int fg), .val (.long fv), .second, .val (.long tv), .second, .val (.long ev), .second, .val (.int (0 : Int32)), .unset, .unset, .unset, .unset] [(.int (0 : Int32))])) tgt
        refine XS.ifYes X28.here hx rfl (pc0 := 111) (pc' := 119) rfl (hb hby at_111) rfl ((if0 _ _).trans (teq (by decide : (0 : Int32) = (0 : Int32))).1) (by decide) (by decide) ?_
        show Steps p.tables e below (T28.setTop (mkF m 119 #[.val (.long fr), .second, .val (.long a1), .second, .val (.long tr), .second, .val (.long b1), .second, .val (.long er), .second, .val (.int fg), .val (.long fv), .second, .val (.long tv), .second, .val (.long ev), .second, .val (.int (0 : Int32)), .unset, .unset, .unset, .unset] [])) tgt
        refine XS.lloadN X28.here hx rfl (hb hby at_119) rfl ?_
        show Steps p.tables e below (T28.setTop (mkF m 120 #[.val (.long fr), .second, .val (.long a1), .second, .val (.long tr), .second, .val (.long b1), .second, .val (.long er), .second, .val (.int fg), .val (.long fv), .second, .val (.long tv), .second, .val (.long ev), .second, .val (.int (0 : Int32)), .unset, .unset, .unset, .unset] [(.long a1)])) tgt
        refine XS.lstore X28.here hx rfl (hb hby at_120) rfl (l' := #[.val (.long fr), .second, .val (.long a1), .second, .val (.long tr), .second, .val (.long b1), .second, .val (.long er), .second, .val (.int fg), .val (.long fv), .second, .val (.long tv), .second, .val (.long ev), .second, .val (.int (0 : Int32)), .val (.long a1), .second, .unset, .unset]) rfl ?_
        exact k
      obtain ⟨T29, h29, X29, e29, E29, A29, D29, -, st29⟩ := newO X28 hx hZ hown (hw _ (List.mem_of_getElem? (i := 1) rfl)) (hw _ (List.mem_of_getElem? (i := 2) rfl)) (hw _ (List.mem_of_getElem? (i := 3) rfl)) K28 (g := (mkF m 122 #[.val (.long fr), .second, .val (.long a1), .second, .val (.long tr), .second, .val (.long b1), .second, .val (.long er), .second, .val (.int fg), .val (.long fv), .second, .val (.long tv), .second, .val (.long ev), .second, .val (.int (0 : Int32)), .val (.long a1), .second, .unset, .unset] [])) rfl (hb hby at_122) (by decide) (by decide)
      obtain ⟨pv, g29⟩ : ∃ z, z = h0.size := ⟨_, rfl⟩
      rw [← g29] at A29 D29 st29
      have g_pv : n0 ≤ pv := Nat.le_trans Z0 (Nat.le_of_eq g29.symm)
      have Zs29 : n0 ≤ h29.size := Nat.le_trans Z0 E29.1
      have F_pv_factor_29 : Fld Z h29 pv "com/example/headwater/headwater/connectors/ListingPace" "factor" "J" (.long (0 : Int64)) := D29 (Or.inr (hw _ (List.mem_of_getElem? (i := 11) rfl))) (ty := .long) (by decide)
      have F_pv_began_29 : Fld Z h29 pv "com/example/headwater/headwater/connectors/ListingPace" "began" "J" (.long (0 : Int64)) := D29 (Or.inl (hw _ (List.mem_of_getElem? (i := 13) rfl))) (ty := .long) (by decide)
      have F_pv_took_29 : Fld Z h29 pv "com/example/headwater/headwater/connectors/ListingPace" "took" "J" (.long (0 : Int64)) := D29 (Or.inl (hw _ (List.mem_of_getElem? (i := 20) rfl))) (ty := .long) (by decide)
      refine own_st st29 ?_
      show own_Go p e below _ (T29.setTop (mkF m 125 #[.val (.long fr), .second, .val (.long a1), .second, .val (.long tr), .second, .val (.long b1), .second, .val (.long er), .second, .val (.int fg), .val (.long fv), .second, .val (.long tv), .second, .val (.long ev), .second, .val (.int (0 : Int32)), .val (.long a1), .second, .unset, .unset] [(.ref pv)]))
      refine own_st (V := T29.setTop (mkF m 129 #[.val (.long fr), .second, .val (.long a1), .second, .val (.long tr), .second, .val (.long b1), .second, .val (.long er), .second, .val (.int fg), .val (.long fv), .second, .val (.long tv), .second, .val (.long ev), .second, .val (.int (0 : Int32)), .val (.long a1), .second, .unset, .unset] [(.long a1), (.long fv), (.ref pv), (.ref pv)])) (fun tgt k => ?_) ?_
      · show Steps p.tables e below (T29.setTop (mkF m 125 #[.val (.long fr), .second, .val (.long a1), .second, .val (.long tr), .second, .val (.long b1), .second, .val (.long er), .second, .val (.int fg), .val (.long fv), .second, .val (.long tv), .second, .val (.long ev), .second, .val (.int (0 : Int32)), .val (.long a1), .second, .unset, .unset] [(.ref pv)])) tgt
        refine XS.dup X29.here hx rfl (hb hby at_125) rfl rfl ?_
        show Steps p.tables e below (T29.setTop (mkF m 126 #[.val (.long fr), .second, .val (.long a1), .second, .val (.long tr), .second, .val (.long b1), .second, .val (.long er), .second, .val (.int fg), .val (.long fv), .second, .val (.long tv), .second, .val (.long ev), .second, .val (.int (0 : Int32)), .val (.long a1), .second, .unset, .unset] [(.ref pv), (.ref pv)])) tgt
        refine XS.lload X29.here hx rfl (hb hby at_126) rfl ?_
        show Steps p.tables e below (T29.setTop (mkF m 128 #[.val (.long fr), .second, .val (.long a1), .second, .val (.long tr), .second, .val (.long b1), .second, .val (.long er), .second, .val (.int fg), .val (.long fv), .second, .val (.long tv), .second, .val (.long ev), .second, .val (.int (0 : Int32)), .val (.long a1), .second, .unset, .unset] [(.long fv), (.ref pv), (.ref pv)])) tgt
        refine XS.lloadN X29.here hx rfl (hb hby at_128) rfl ?_
        exact k
      obtain ⟨_, _, ⟨T30, L30, k30, n30⟩, -, X30, ⟨Lc30, hQ30, l30, y30, z30⟩, st30⟩ := X29.specialBack hx (y := (⟨"com/example/headwater/headwater/connectors/ListingPace", "<init>", "(JJ)V"⟩ : MethodName)) rfl hown (mvT hZ (hw _ (List.mem_of_getElem? (i := 4) rfl))) (mvT hZ (hw _ (List.mem_of_getElem? (i := 5) rfl))) (mvT hZ (hw _ (List.mem_of_getElem? (i := 6) rfl))) (by decide) (backOf (W := 1) (rm1 l Z a0 hw [] pv fv a1 h29 n0 Zs29 A29 F_pv_factor_29 F_pv_began_29 F_pv_took_29 g_pv) hZ (hw _ (List.mem_of_getElem? (i := 6) rfl)) (hw _ (List.mem_of_getElem? (i := 3) rfl)) (by decide) (by decide)) (g := (mkF m 129 #[.val (.long fr), .second, .val (.long a1), .second, .val (.long tr), .second, .val (.long b1), .second, .val (.long er), .second, .val (.int fg), .val (.long fv), .second, .val (.long tv), .second, .val (.long ev), .second, .val (.int (0 : Int32)), .val (.long a1), .second, .unset, .unset] [(.long a1), (.long fv), (.ref pv), (.ref pv)])) rfl (by rw [hml]; rfl) (Steps.refl _) (a := pv) (argsL := [(.long fv), (.long a1)]) (rest := [(.ref pv)]) (lenOf pd_0_1 rfl) rfl (by show 2 * 0 + _ ≤ _; exact Nat.le_of_eq rfl) (hb hby at_129) (fun _ _ => ⟨rfl, e29, (by decide : 1 + 0 ≤ _), (by decide : 3 + 0 ≤ _)⟩)
      dsimp only [Pt.U, Pt.locs, Pt.cells, Pt.slots] at X30 l30 y30 z30 st30 hQ30
      subst l30 y30 z30
      obtain ⟨rfl, N30q, K30, g30_0, g30_1, g30_2, g30_3⟩ := hQ30
      have N30 := Fr.app N28 N30q
      have E_pv_30 := A29.keep K30
      have Zs30 : n0 ≤ T30.heap.size := Nat.le_trans Zs29 K30.1
      refine own_st (fun tgt k => st30.trans k) ?_
      show own_Go p e below _ (T30.setTop (mkF m 132 #[.val (.long fr), .second, .val (.long a1), .second, .val (.long tr), .second, .val (.long b1), .second, .val (.long er), .second, .val (.int fg), .val (.long fv), .second, .val (.long tv), .second, .val (.long ev), .second, .val (.int (0 : Int32)), .val (.long a1), .second, .unset, .unset] [(.ref pv)]))
      refine own_st (V := T30.setTop (mkF m 140 #[.val (.long fr), .second, .val (.long a1), .second, .val (.long tr), .second, .val (.long b1), .second, .val (.long er), .second, .val (.int fg), .val (.long fv), .second, .val (.long tv), .second, .val (.long ev), .second, .val (.int (0 : Int32)), .val (.long a1), .second, .val (.ref pv), .unset] [(.long (a1 + tv)), (.ref pv)])) (fun tgt k => ?_) ?_
      · show Steps p.tables e below (T30.setTop (mkF m 132 #[.val (.long fr), .second, .val (.long a1), .second, .val (.long tr), .second, .val (.long b1), .second, .val (.long er), .second, .val (.int fg), .val (.long fv), .second, .val (.long tv), .second, .val (.long ev), .second, .val (.int (0 : Int32)), .val (.long a1), .second, .unset, .unset] [(.ref pv)])) tgt
        refine XS.astore X30.here hx rfl (hb hby at_132) rfl rfl (l' := #[.val (.long fr), .second, .val (.long a1), .second, .val (.long tr), .second, .val (.long b1), .second, .val (.long er), .second, .val (.int fg), .val (.long fv), .second, .val (.long tv), .second, .val (.long ev), .second, .val (.int (0 : Int32)), .val (.long a1), .second, .val (.ref pv), .unset]) rfl ?_
        show Steps p.tables e below (T30.setTop (mkF m 134 #[.val (.long fr), .second, .val (.long a1), .second, .val (.long tr), .second, .val (.long b1), .second, .val (.long er), .second, .val (.int fg), .val (.long fv), .second, .val (.long tv), .second, .val (.long ev), .second, .val (.int (0 : Int32)), .val (.long a1), .second, .val (.ref pv), .unset] [])) tgt
        refine XS.aload X30.here hx rfl (hb hby at_134) rfl rfl ?_
        show Steps p.tables e below (T30.setTop (mkF m 136 #[.val (.long fr), .second, .val (.long a1), .second, .val (.long tr), .second, .val (.long b1), .second, .val (.long er), .second, .val (.int fg), .val (.long fv), .second, .val (.long tv), .second, .val (.long ev), .second, .val (.int (0 : Int32)), .val (.long a1), .second, .val (.ref pv), .unset] [(.ref pv)])) tgt
        refine XS.lloadN X30.here hx rfl (hb hby at_136) rfl ?_
        show Steps p.tables e below (T30.setTop (mkF m 137 #[.val (.long fr), .second, .val (.long a1), .second, .val (.long tr), .second, .val (.long b1), .second, .val (.long er), .second, .val (.int fg), .val (.long fv), .second, .val (.long tv), .second, .val (.long ev), .second, .val (.int (0 : Int32)), .val (.long a1), .second, .val (.ref pv), .unset] [(.long a1), (.ref pv)])) tgt
        refine XS.lload X30.here hx rfl (hb hby at_137) rfl ?_
        show Steps p.tables e below (T30.setTop (mkF m 139 #[.val (.long fr), .second, .val (.long a1), .second, .val (.long tr), .second, .val (.long b1), .second, .val (.long er), .second, .val (.int fg), .val (.long fv), .second, .val (.long tv), .second, .val (.long ev), .second, .val (.int (0 : Int32)), .val (.long a1), .second, .val (.ref pv), .unset] [(.long tv), (.long a1), (.ref pv)])) tgt
        refine XS.ladd X30.here hx rfl (hb hby at_139) rfl ?_
        exact k
      obtain ⟨cq31, kq31, q31a, q31b, q31c⟩ := isOf hZ rfl g30_0
      obtain ⟨_, _, ⟨T31, L31, k31, n31⟩, -, X31, ⟨Lc31, hQ31, l31, y31, z31⟩, st31⟩ := X30.virtualBack hx (y := (⟨"com/example/headwater/headwater/connectors/ListingPace", "ended", "(J)V"⟩ : MethodName)) (z := (⟨"com/example/headwater/headwater/connectors/ListingPace", "ended", "(J)V"⟩ : MethodName)) hown (mvT hZ (hw _ (List.mem_of_getElem? (i := 14) rfl))) (mvT hZ (hw _ (List.mem_of_getElem? (i := 15) rfl))) (notFace_of_selects (args := #[]) (mvT hZ (hw _ (List.mem_of_getElem? (i := 17) rfl)))) (mvT hZ (hw _ (List.mem_of_getElem? (i := 17) rfl))) (mvT hZ (hw _ (List.mem_of_getElem? (i := 16) rfl))) (by decide) (backOf (W := 0) (rm3 l Z a0 hw [] pv (a1 + tv) fv a1 (0 : Int64) T30.heap n0 Zs30 g30_0 g30_1 g30_2 g30_3 g_pv) hZ (hw _ (List.mem_of_getElem? (i := 18) rfl)) (hw _ (List.mem_of_getElem? (i := 3) rfl)) (by decide) (by decide)) q31a q31c (g := (mkF m 140 #[.val (.long fr), .second, .val (.long a1), .second, .val (.long tr), .second, .val (.long b1), .second, .val (.long er), .second, .val (.int fg), .val (.long fv), .second, .val (.long tv), .second, .val (.long ev), .second, .val (.int (0 : Int32)), .val (.long a1), .second, .val (.ref pv), .unset] [(.long (a1 + tv)), (.ref pv)])) rfl (by rw [hml]; rfl) (Steps.refl _) (argsL := [(.long (a1 + tv))]) (rest := []) (lenOf pd_0_2 rfl) rfl (by show 2 * 0 + _ ≤ _; exact Nat.le_of_eq rfl) (hb hby at_140) (fun _ _ => ⟨rfl, rfl, (by decide : 1 + 0 ≤ _), (by decide : 3 + 0 ≤ _)⟩)
      dsimp only [Pt.U, Pt.locs, Pt.cells, Pt.slots] at X31 l31 y31 z31 st31 hQ31
      subst l31 y31 z31
      obtain ⟨rfl, N31q, K31, g31_0, g31_1, g31_2, g31_3⟩ := hQ31
      have N31 := Fr.app N30 N31q
      have E_pv_31 := g30_0.keep K31
      have Zs31 : n0 ≤ T31.heap.size := Nat.le_trans Zs30 K31.1
      refine own_st (fun tgt k => st31.trans k) ?_
      show own_Go p e below _ (T31.setTop (mkF m 143 #[.val (.long fr), .second, .val (.long a1), .second, .val (.long tr), .second, .val (.long b1), .second, .val (.long er), .second, .val (.int fg), .val (.long fv), .second, .val (.long tv), .second, .val (.long ev), .second, .val (.int (0 : Int32)), .val (.long a1), .second, .val (.ref pv), .unset] []))
      refine own_st (V := T31.setTop (mkF m 162 #[.val (.long fr), .second, .val (.long a1), .second, .val (.long tr), .second, .val (.long b1), .second, .val (.long er), .second, .val (.int fg), .val (.long fv), .second, .val (.long tv), .second, .val (.long ev), .second, .val (.int (0 : Int32)), .val (.long a1), .second, .val (.ref pv), .unset] [(.long (a1 + ev)), (.ref pv)])) (fun tgt k => ?_) ?_
      · show Steps p.tables e below (T31.setTop (mkF m 143 #[.val (.long fr), .second, .val (.long a1), .second, .val (.long tr), .second, .val (.long b1), .second, .val (.long er), .second, .val (.int fg), .val (.long fv), .second, .val (.long tv), .second, .val (.long ev), .second, .val (.int (0 : Int32)), .val (.long a1), .second, .val (.ref pv), .unset] [])) tgt
        refine XS.iload X31.here hx rfl (hb hby at_143) rfl ?_
        show Steps p.tables e below (T31.setTop (mkF m 145 #[.val (.long fr), .second, .val (.long a1), .second, .val (.long tr), .second, .val (.long b1), .second, .val (.long er), .second, .val (.int fg), .val (.long fv), .second, .val (.long tv), .second, .val (.long ev), .second, .val (.int (0 : Int32)), .val (.long a1), .second, .val (.ref pv), .unset] [(.int (0 : Int32))])) tgt
        refine XS.ifYes X31.here hx rfl (pc0 := 145) (pc' := 155) rfl (hb hby at_145) rfl ((if0 _ _).trans (teq (by decide : (0 : Int32) = (0 : Int32))).1) (by decide) (by decide) ?_
        show Steps p.tables e below (T31.setTop (mkF m 155 #[.val (.long fr), .second, .val (.long a1), .second, .val (.long tr), .second, .val (.long b1), .second, .val (.long er), .second, .val (.int fg), .val (.long fv), .second, .val (.long tv), .second, .val (.long ev), .second, .val (.int (0 : Int32)), .val (.long a1), .second, .val (.ref pv), .unset] [])) tgt
        refine XS.aload X31.here hx rfl (hb hby at_155) rfl rfl ?_
        show Steps p.tables e below (T31.setTop (mkF m 157 #[.val (.long fr), .second, .val (.long a1), .second, .val (.long tr), .second, .val (.long b1), .second, .val (.long er), .second, .val (.int fg), .val (.long fv), .second, .val (.long tv), .second, .val (.long ev), .second, .val (.int (0 : Int32)), .val (.long a1), .second, .val (.ref pv), .unset] [(.ref pv)])) tgt
        refine XS.lload X31.here hx rfl (hb hby at_157) rfl ?_
        show Steps p.tables e below (T31.setTop (mkF m 159 #[.val (.long fr), .second, .val (.long a1), .second, .val (.long tr), .second, .val (.long b1), .second, .val (.long er), .second, .val (.int fg), .val (.long fv), .second, .val (.long tv), .second, .val (.long ev), .second, .val (.int (0 : Int32)), .val (.long a1), .second, .val (.ref pv), .unset] [(.long a1), (.ref pv)])) tgt
        refine XS.lload X31.here hx rfl (hb hby at_159) rfl ?_
        show Steps p.tables e below (T31.setTop (mkF m 161 #[.val (.long fr), .second, .val (.long a1), .second, .val (.long tr), .second, .val (.long b1), .second, .val (.long er), .second, .val (.int fg), .val (.long fv), .second, .val (.long tv), .second, .val (.long ev), .second, .val (.int (0 : Int32)), .val (.long a1), .second, .val (.ref pv), .unset] [(.long ev), (.long a1), (.ref pv)])) tgt
        refine XS.ladd X31.here hx rfl (hb hby at_161) rfl ?_
        exact k
      obtain ⟨cq32, kq32, q32a, q32b, q32c⟩ := isOf hZ rfl g31_0
      obtain ⟨_, _, ⟨T32, L32, k32, n32⟩, -, X32, ⟨Lc32, hQ32, l32, y32, z32⟩, st32⟩ := X31.virtualBack hx (y := (⟨"com/example/headwater/headwater/connectors/ListingPace", "allows", "(J)Z"⟩ : MethodName)) (z := (⟨"com/example/headwater/headwater/connectors/ListingPace", "allows", "(J)Z"⟩ : MethodName)) hown (mvT hZ (hw _ (List.mem_of_getElem? (i := 21) rfl))) (mvT hZ (hw _ (List.mem_of_getElem? (i := 22) rfl))) (notFace_of_selects (args := #[]) (mvT hZ (hw _ (List.mem_of_getElem? (i := 24) rfl)))) (mvT hZ (hw _ (List.mem_of_getElem? (i := 24) rfl))) (mvT hZ (hw _ (List.mem_of_getElem? (i := 23) rfl))) (by decide) (backOf (W := 0) (rm4 l Z a0 hw [] pv (a1 + ev) fv a1 ((a1 + tv) - a1) T31.heap n0 Zs31 g31_0 g31_1 g31_2 g31_3 (own_nz64 hf1)) hZ (hw _ (List.mem_of_getElem? (i := 25) rfl)) (hw _ (List.mem_of_getElem? (i := 3) rfl)) (by decide) (by decide)) q32a q32c (g := (mkF m 162 #[.val (.long fr), .second, .val (.long a1), .second, .val (.long tr), .second, .val (.long b1), .second, .val (.long er), .second, .val (.int fg), .val (.long fv), .second, .val (.long tv), .second, .val (.long ev), .second, .val (.int (0 : Int32)), .val (.long a1), .second, .val (.ref pv), .unset] [(.long (a1 + ev)), (.ref pv)])) rfl (by rw [hml]; rfl) (Steps.refl _) (argsL := [(.long (a1 + ev))]) (rest := []) (lenOf pd_0_3 rfl) rfl (by show 2 * 0 + _ ≤ _; exact Nat.le_of_eq rfl) (hb hby at_162) (fun _ _ => ⟨rfl, rfl, (by decide : 1 + 0 ≤ _), (by decide : 3 + 0 ≤ _)⟩)
      dsimp only [Pt.U, Pt.locs, Pt.cells, Pt.slots] at X32 l32 y32 z32 st32 hQ32
      subst l32 y32 z32
      obtain ⟨rfl, N32q, K32⟩ := hQ32
      have N32 := Fr.app N31 N32q
      refine own_st (fun tgt k => st32.trans k) ?_
      show own_Go p e below _ (T32.setTop (mkF m 165 #[.val (.long fr), .second, .val (.long a1), .second, .val (.long tr), .second, .val (.long b1), .second, .val (.long er), .second, .val (.int fg), .val (.long fv), .second, .val (.long tv), .second, .val (.long ev), .second, .val (.int (0 : Int32)), .val (.long a1), .second, .val (.ref pv), .unset] [(.int (own_A fv a1 ((a1 + tv) - a1) (a1 + ev)))]))
      refine own_st (V := T32.setTop (mkF m 175 #[.val (.long fr), .second, .val (.long a1), .second, .val (.long tr), .second, .val (.long b1), .second, .val (.long er), .second, .val (.int fg), .val (.long fv), .second, .val (.long tv), .second, .val (.long ev), .second, .val (.int (0 : Int32)), .val (.long a1), .second, .val (.ref pv), .val (.int (own_A fv a1 ((a1 + tv) - a1) (a1 + ev)))] [(.long ev), (.long tv), (.long fv), (.int (own_A fv a1 ((a1 + tv) - a1) (a1 + ev)))])) (fun tgt k => ?_) ?_
      · show Steps p.tables e below (T32.setTop (mkF m 165 #[.val (.long fr), .second, .val (.long a1), .second, .val (.long tr), .second, .val (.long b1), .second, .val (.long er), .second, .val (.int fg), .val (.long fv), .second, .val (.long tv), .second, .val (.long ev), .second, .val (.int (0 : Int32)), .val (.long a1), .second, .val (.ref pv), .unset] [(.int (own_A fv a1 ((a1 + tv) - a1) (a1 + ev)))])) tgt
        refine XS.istore X32.here hx rfl (hb hby at_165) rfl (l' := #[.val (.long fr), .second, .val (.long a1), .second, .val (.long tr), .second, .val (.long b1), .second, .val (.long er), .second, .val (.int fg), .val (.long fv), .second, .val (.long tv), .second, .val (.long ev), .second, .val (.int (0 : Int32)), .val (.long a1), .second, .val (.ref pv), .val (.int (own_A fv a1 ((a1 + tv) - a1) (a1 + ev)))]) rfl ?_
        show Steps p.tables e below (T32.setTop (mkF m 167 #[.val (.long fr), .second, .val (.long a1), .second, .val (.long tr), .second, .val (.long b1), .second, .val (.long er), .second, .val (.int fg), .val (.long fv), .second, .val (.long tv), .second, .val (.long ev), .second, .val (.int (0 : Int32)), .val (.long a1), .second, .val (.ref pv), .val (.int (own_A fv a1 ((a1 + tv) - a1) (a1 + ev)))] [])) tgt
        refine XS.iload X32.here hx rfl (hb hby at_167) rfl ?_
        show Steps p.tables e below (T32.setTop (mkF m 169 #[.val (.long fr), .second, .val (.long a1), .second, .val (.long tr), .second, .val (.long b1), .second, .val (.long er), .second, .val (.int fg), .val (.long fv), .second, .val (.long tv), .second, .val (.long ev), .second, .val (.int (0 : Int32)), .val (.long a1), .second, .val (.ref pv), .val (.int (own_A fv a1 ((a1 + tv) - a1) (a1 + ev)))] [(.int (own_A fv a1 ((a1 + tv) - a1) (a1 + ev)))])) tgt
        refine XS.lload X32.here hx rfl (hb hby at_169) rfl ?_
        show Steps p.tables e below (T32.setTop (mkF m 171 #[.val (.long fr), .second, .val (.long a1), .second, .val (.long tr), .second, .val (.long b1), .second, .val (.long er), .second, .val (.int fg), .val (.long fv), .second, .val (.long tv), .second, .val (.long ev), .second, .val (.int (0 : Int32)), .val (.long a1), .second, .val (.ref pv), .val (.int (own_A fv a1 ((a1 + tv) - a1) (a1 + ev)))] [(.long fv), (.int (own_A fv a1 ((a1 + tv) - a1) (a1 + ev)))])) tgt
        refine XS.lload X32.here hx rfl (hb hby at_171) rfl ?_
        show Steps p.tables e below (T32.setTop (mkF m 173 #[.val (.long fr), .second, .val (.long a1), .second, .val (.long tr), .second, .val (.long b1), .second, .val (.long er), .second, .val (.int fg), .val (.long fv), .second, .val (.long tv), .second, .val (.long ev), .second, .val (.int (0 : Int32)), .val (.long a1), .second, .val (.ref pv), .val (.int (own_A fv a1 ((a1 + tv) - a1) (a1 + ev)))] [(.long tv), (.long fv), (.int (own_A fv a1 ((a1 + tv) - a1) (a1 + ev)))])) tgt
        refine XS.lload X32.here hx rfl (hb hby at_173) rfl ?_
        exact k
      obtain ⟨_, _, ⟨T33, L33, k33, n33⟩, -, X33, ⟨Lc33, hQ33, l33, y33, z33⟩, st33⟩ := Jvm.LawKit.callS X32 hx (y := (⟨"com/example/headwater/headwater/connectors/ListingPaceAllowsPinLaw", "expected", "(JJJ)Z"⟩ : MethodName)) hown (mvT hZ (hw _ (List.mem_of_getElem? (i := 26) rfl))) (mvT hZ (hw _ (List.mem_of_getElem? (i := 27) rfl))) (mvT hZ (hw _ (List.mem_of_getElem? (i := 28) rfl))) (mvT hZ (hw _ (List.mem_of_getElem? (i := 29) rfl))) (by decide) (backOf (W := 1) (rm5 l Z a0 hw [] fv tv ev T31.heap n0 Zs31 ) hZ (hw _ (List.mem_of_getElem? (i := 29) rfl)) (hw _ (List.mem_of_getElem? (i := 28) rfl)) (by decide) (by decide)) (g := (mkF m 175 #[.val (.long fr), .second, .val (.long a1), .second, .val (.long tr), .second, .val (.long b1), .second, .val (.long er), .second, .val (.int fg), .val (.long fv), .second, .val (.long tv), .second, .val (.long ev), .second, .val (.int (0 : Int32)), .val (.long a1), .second, .val (.ref pv), .val (.int (own_A fv a1 ((a1 + tv) - a1) (a1 + ev)))] [(.long ev), (.long tv), (.long fv), (.int (own_A fv a1 ((a1 + tv) - a1) (a1 + ev)))])) rfl (by rw [hml]; rfl) (argsL := [(.long fv), (.long tv), (.long ev)]) (rest := [(.int (own_A fv a1 ((a1 + tv) - a1) (a1 + ev)))]) (lenOf pd_0_4 rfl) rfl (by show 2 * 0 + _ ≤ _; exact Nat.le_of_eq rfl) (hb hby at_175) (fun _ _ => ⟨rfl, K32, (by decide : 1 + 0 ≤ _), (by decide : 3 + 0 ≤ _)⟩)
      dsimp only [Pt.U, Pt.locs, Pt.cells, Pt.slots] at X33 l33 y33 z33 st33 hQ33
      subst l33 y33 z33
      obtain ⟨rfl, N33q, K33⟩ := hQ33
      have N33 := Fr.app N32 N33q
      refine own_st st33 ?_
      show own_Go p e below _ (T33.setTop (mkF m 178 #[.val (.long fr), .second, .val (.long a1), .second, .val (.long tr), .second, .val (.long b1), .second, .val (.long er), .second, .val (.int fg), .val (.long fv), .second, .val (.long tv), .second, .val (.long ev), .second, .val (.int (0 : Int32)), .val (.long a1), .second, .val (.ref pv), .val (.int (own_A fv a1 ((a1 + tv) - a1) (a1 + ev)))] [(.int (own_E fv tv ev)), (.int (own_A fv a1 ((a1 + tv) - a1) (a1 + ev)))]))
      refine own_st (V := T33.setTop (mkF m 186 #[.val (.long fr), .second, .val (.long a1), .second, .val (.long tr), .second, .val (.long b1), .second, .val (.long er), .second, .val (.int fg), .val (.long fv), .second, .val (.long tv), .second, .val (.long ev), .second, .val (.int (0 : Int32)), .val (.long a1), .second, .val (.ref pv), .val (.int (own_A fv a1 ((a1 + tv) - a1) (a1 + ev)))] [(.int (1 : Int32))])) (fun tgt k => ?_) ?_
      · show Steps p.tables e below (T33.setTop (mkF m 178 #[.val (.long fr), .second, .val (.long a1), .second, .val (.long tr), .second, .val (.long b1), .second, .val (.long er), .second, .val (.int fg), .val (.long fv), .second, .val (.long tv), .second, .val (.long ev), .second, .val (.int (0 : Int32)), .val (.long a1), .second, .val (.ref pv), .val (.int (own_A fv a1 ((a1 + tv) - a1) (a1 + ev)))] [(.int (own_E fv tv ev)), (.int (own_A fv a1 ((a1 + tv) - a1) (a1 + ev)))])) tgt
        refine XS.icmpNo X33.here hx rfl (hb hby at_178) rfl (teq (own_law _ _ _ _ _ hf1 ht0 he0)).2 ?_
        show Steps p.tables e below (T33.setTop (mkF m 181 #[.val (.long fr), .second, .val (.long a1), .second, .val (.long tr), .second, .val (.long b1), .second, .val (.long er), .second, .val (.int fg), .val (.long fv), .second, .val (.long tv), .second, .val (.long ev), .second, .val (.int (0 : Int32)), .val (.long a1), .second, .val (.ref pv), .val (.int (own_A fv a1 ((a1 + tv) - a1) (a1 + ev)))] [])) tgt
        refine XS.iconst X33.here hx rfl (hb hby at_181) ?_
        show Steps p.tables e below (T33.setTop (mkF m 182 #[.val (.long fr), .second, .val (.long a1), .second, .val (.long tr), .second, .val (.long b1), .second, .val (.long er), .second, .val (.int fg), .val (.long fv), .second, .val (.long tv), .second, .val (.long ev), .second, .val (.int (0 : Int32)), .val (.long a1), .second, .val (.ref pv), .val (.int (own_A fv a1 ((a1 + tv) - a1) (a1 + ev)))] [(.int (1 : Int32))])) tgt
        refine XS.goto X33.here hx rfl (pc0 := 182) (pc' := 186) rfl (hb hby at_182) (by decide) (by decide) ?_
        exact k
      refine own_retN X33 hx hlk (t := .boolean) (z' := (1 : Int32)) Bd.returns (by simp) rfl (hb hby at_186) ?_ (by decide) (by decide)
      show Q0 Z fr a1 tr b1 er fg h0 n0 (some (.int (1 : Int32))) T33.heap _
      rw [K33]
      exact ⟨rfl, N33⟩
    · skip
      refine own_st (V := T28.setTop (mkF m 122 #[.val (.long fr), .second, .val (.long a1), .second, .val (.long tr), .second, .val (.long b1), .second, .val (.long er), .second, .val (.int fg), .val (.long fv), .second, .val (.long tv), .second, .val (.long ev), .second, .val (.int (1 : Int32)), .val (.long b1), .second, .unset, .unset] [])) (fun tgt k => ?_) ?_
      · show Steps p.tables e below (T28.setTop (mkF m 99 #[.val (.long fr), .second, .val (.long a1), .second, .val (.long tr), .second, .val (.long b1), .second, .val (.long er), .second, .val (.int fg), .val (.long fv), .second, .val (.long tv), .second, .val (.long ev), .second, .val (.long gv), .second, .unset, .unset, .unset] [(.int (fg &&& (1 : Int32)))])) tgt
        refine XS.ifNo X28.here hx rfl (hb hby at_99) rfl ((if0 _ _).trans (feq hc99).1) ?_
        show Steps p.tables e below (T28.setTop (mkF m 102 #[.val (.long fr), .second, .val (.long a1), .second, .val (.long tr), .second, .val (.long b1), .second, .val (.long er), .second, .val (.int fg), .val (.long fv), .second, .val (.long tv), .second, .val (.long ev), .second, .val (.long gv), .second, .unset, .unset, .unset] [])) tgt
        refine XS.iconst X28.here hx rfl (hb hby at_102) ?_
        show Steps p.tables e below (T28.setTop (mkF m 103 #[.val (.long fr), .second, .val (.long a1), .second, .val (.long tr), .second, .val (.long b1), .second, .val (.long er), .second, .val (.int fg), .val (.long fv), .second, .val (.long tv), .second, .val (.long ev), .second, .val (.long gv), .second, .unset, .unset, .unset] [(.int (1 : Int32))])) tgt
        refine XS.goto X28.here hx rfl (pc0 := 103) (pc' := 107) rfl (hb hby at_103) (by decide) (by decide) ?_
        show Steps p.tables e below (T28.setTop (mkF m 107 #[.val (.long fr), .second, .val (.long a1), .second, .val (.long tr), .second, .val (.long b1), .second, .val (.long er), .second, .val (.int fg), .val (.long fv), .second, .val (.long tv), .second, .val (.long ev), .second, .val (.long gv), .second, .unset, .unset, .unset] [(.int (1 : Int32))])) tgt
        refine XS.istore X28.here hx rfl (hb hby at_107) rfl (l' := #[.val (.long fr), .second, .val (.long a1), .second, .val (.long tr), .second, .val (.long b1), .second, .val (.long er), .second, .val (.int fg), .val (.long fv), .second, .val (.long tv), .second, .val (.long ev), .second, .val (.int (1 : Int32)), .unset, .unset, .unset, .unset]) rfl ?_
        show Steps p.tables e below (T28.setTop (mkF m 109 #[.val (.long fr), .second, .val (.long a1), .second, .val (.long tr), .second, .val (.long b1), .second, .val (.long er), .second, .val (.int fg), .val (.long fv), .second, .val (.long tv), .second, .val (.long ev), .second, .val (.int (1 : Int32)), .unset, .unset, .unset, .unset] [])) tgt
        refine XS.iload X28.here hx rfl (hb hby at_109) rfl ?_
        show Steps p.tables e below (T28.setTop (mkF m 111 #[.val (.long fr), .second, .val (.long a1), .second, .val (.long tr), .second, .val (.long b1), .second, .val (.long er), .second, .val (.int fg), .val (.long fv), .second, .val (.long tv), .second, .val (.long ev), .second, .val (.int (1 : Int32)), .unset, .unset, .unset, .unset] [(.int (1 : Int32))])) tgt
        refine XS.ifNo X28.here hx rfl (hb hby at_111) rfl ((if0 _ _).trans (feq (by decide : ¬ ((1 : Int32) = (0 : Int32)))).1) ?_
        show Steps p.tables e below (T28.setTop (mkF m 114 #[.val (.long fr), .second, .val (.long a1), .second, .val (.long tr), .second, .val (.long b1), .second, .val (.long er), .second, .val (.int fg), .val (.long fv), .second, .val (.long tv), .second, .val (.long ev), .second, .val (.int (1 : Int32)), .unset, .unset, .unset, .unset] [])) tgt
        refine XS.lload X28.here hx rfl (hb hby at_114) rfl ?_
        show Steps p.tables e below (T28.setTop (mkF m 116 #[.val (.long fr), .second, .val (.long a1), .second, .val (.long tr), .second, .val (.long b1), .second, .val (.long er), .second, .val (.int fg), .val (.long fv), .second, .val (.long tv), .second, .val (.long ev), .second, .val (.int (1 : Int32)), .unset, .unset, .unset, .unset] [(.long b1)])) tgt
        refine XS.goto X28.here hx rfl (pc0 := 116) (pc' := 120) rfl (hb hby at_116) (by decide) (by decide) ?_
        show Steps p.tables e below (T28.setTop (mkF m 120 #[.val (.long fr), .second, .val (.long a1), .second, .val (.long tr), .second, .val (.long b1), .second, .val (.long er), .second, .val (.int fg), .val (.long fv), .second, .val (.long tv), .second, .val (.long ev), .second, .val (.int (1 : Int32)), .unset, .unset, .unset, .unset] [(.long b1)])) tgt
        refine XS.lstore X28.here hx rfl (hb hby at_120) rfl (l' := #[.val (.long fr), .second, .val (.long a1), .second, .val (.long tr), .second, .val (.long b1), .second, .val (.long er), .second, .val (.int fg), .val (.long fv), .second, .val (.long tv), .second, .val (.long ev), .second, .val (.int (1 : Int32)), .val (.long b1), .second, .unset, .unset]) rfl ?_
        exact k
      obtain ⟨T35, h35, X35, e35, E35, A35, D35, -, st35⟩ := newO X28 hx hZ hown (hw _ (List.mem_of_getElem? (i := 1) rfl)) (hw _ (List.mem_of_getElem? (i := 2) rfl)) (hw _ (List.mem_of_getElem? (i := 3) rfl)) K28 (g := (mkF m 122 #[.val (.long fr), .second, .val (.long a1), .second, .val (.long tr), .second, .val (.long b1), .second, .val (.long er), .second, .val (.int fg), .val (.long fv), .second, .val (.long tv), .second, .val (.long ev), .second, .val (.int (1 : Int32)), .val (.long b1), .second, .unset, .unset] [])) rfl (hb hby at_122) (by decide) (by decide)
      obtain ⟨pv, g35⟩ : ∃ z, z = h0.size := ⟨_, rfl⟩
      rw [← g35] at A35 D35 st35
      have g_pv : n0 ≤ pv := Nat.le_trans Z0 (Nat.le_of_eq g35.symm)
      have Zs35 : n0 ≤ h35.size := Nat.le_trans Z0 E35.1
      have F_pv_factor_35 : Fld Z h35 pv "com/example/headwater/headwater/connectors/ListingPace" "factor" "J" (.long (0 : Int64)) := D35 (Or.inr (hw _ (List.mem_of_getElem? (i := 11) rfl))) (ty := .long) (by decide)
      have F_pv_began_35 : Fld Z h35 pv "com/example/headwater/headwater/connectors/ListingPace" "began" "J" (.long (0 : Int64)) := D35 (Or.inl (hw _ (List.mem_of_getElem? (i := 13) rfl))) (ty := .long) (by decide)
      have F_pv_took_35 : Fld Z h35 pv "com/example/headwater/headwater/connectors/ListingPace" "took" "J" (.long (0 : Int64)) := D35 (Or.inl (hw _ (List.mem_of_getElem? (i := 20) rfl))) (ty := .long) (by decide)
      refine own_st st35 ?_
      show own_Go p e below _ (T35.setTop (mkF m 125 #[.val (.long fr), .second, .val (.long a1), .second, .val (.long tr), .second, .val (.long b1), .second, .val (.long er), .second, .val (.int fg), .val (.long fv), .second, .val (.long tv), .second, .val (.long ev), .second, .val (.int (1 : Int32)), .val (.long b1), .second, .unset, .unset] [(.ref pv)]))
      refine own_st (V := T35.setTop (mkF m 129 #[.val (.long fr), .second, .val (.long a1), .second, .val (.long tr), .second, .val (.long b1), .second, .val (.long er), .second, .val (.int fg), .val (.long fv), .second, .val (.long tv), .second, .val (.long ev), .second, .val (.int (1 : Int32)), .val (.long b1), .second, .unset, .unset] [(.long a1), (.long fv), (.ref pv), (.ref pv)])) (fun tgt k => ?_) ?_
      · show Steps p.tables e below (T35.setTop (mkF m 125 #[.val (.long fr), .second, .val (.long a1), .second, .val (.long tr), .second, .val (.long b1), .second, .val (.long er), .second, .val (.int fg), .val (.long fv), .second, .val (.long tv), .second, .val (.long ev), .second, .val (.int (1 : Int32)), .val (.long b1), .second, .unset, .unset] [(.ref pv)])) tgt
        refine XS.dup X35.here hx rfl (hb hby at_125) rfl rfl ?_
        show Steps p.tables e below (T35.setTop (mkF m 126 #[.val (.long fr), .second, .val (.long a1), .second, .val (.long tr), .second, .val (.long b1), .second, .val (.long er), .second, .val (.int fg), .val (.long fv), .second, .val (.long tv), .second, .val (.long ev), .second, .val (.int (1 : Int32)), .val (.long b1), .second, .unset, .unset] [(.ref pv), (.ref pv)])) tgt
        refine XS.lload X35.here hx rfl (hb hby at_126) rfl ?_
        show Steps p.tables e below (T35.setTop (mkF m 128 #[.val (.long fr), .second, .val (.long a1), .second, .val (.long tr), .second, .val (.long b1), .second, .val (.long er), .second, .val (.int fg), .val (.long fv), .second, .val (.long tv), .second, .val (.long ev), .second, .val (.int (1 : Int32)), .val (.long b1), .second, .unset, .unset] [(.long fv), (.ref pv), (.ref pv)])) tgt
        refine XS.lloadN X35.here hx rfl (hb hby at_128) rfl ?_
        exact k
      obtain ⟨_, _, ⟨T36, L36, k36, n36⟩, -, X36, ⟨Lc36, hQ36, l36, y36, z36⟩, st36⟩ := X35.specialBack hx (y := (⟨"com/example/headwater/headwater/connectors/ListingPace", "<init>", "(JJ)V"⟩ : MethodName)) rfl hown (mvT hZ (hw _ (List.mem_of_getElem? (i := 4) rfl))) (mvT hZ (hw _ (List.mem_of_getElem? (i := 5) rfl))) (mvT hZ (hw _ (List.mem_of_getElem? (i := 6) rfl))) (by decide) (backOf (W := 1) (rm1 l Z a0 hw [] pv fv a1 h35 n0 Zs35 A35 F_pv_factor_35 F_pv_began_35 F_pv_took_35 g_pv) hZ (hw _ (List.mem_of_getElem? (i := 6) rfl)) (hw _ (List.mem_of_getElem? (i := 3) rfl)) (by decide) (by decide)) (g := (mkF m 129 #[.val (.long fr), .second, .val (.long a1), .second, .val (.long tr), .second, .val (.long b1), .second, .val (.long er), .second, .val (.int fg), .val (.long fv), .second, .val (.long tv), .second, .val (.long ev), .second, .val (.int (1 : Int32)), .val (.long b1), .second, .unset, .unset] [(.long a1), (.long fv), (.ref pv), (.ref pv)])) rfl (by rw [hml]; rfl) (Steps.refl _) (a := pv) (argsL := [(.long fv), (.long a1)]) (rest := [(.ref pv)]) (lenOf pd_0_1 rfl) rfl (by show 2 * 0 + _ ≤ _; exact Nat.le_of_eq rfl) (hb hby at_129) (fun _ _ => ⟨rfl, e35, (by decide : 1 + 0 ≤ _), (by decide : 3 + 0 ≤ _)⟩)
      dsimp only [Pt.U, Pt.locs, Pt.cells, Pt.slots] at X36 l36 y36 z36 st36 hQ36
      subst l36 y36 z36
      obtain ⟨rfl, N36q, K36, g36_0, g36_1, g36_2, g36_3⟩ := hQ36
      have N36 := Fr.app N28 N36q
      have E_pv_36 := A35.keep K36
      have Zs36 : n0 ≤ T36.heap.size := Nat.le_trans Zs35 K36.1
      refine own_st (fun tgt k => st36.trans k) ?_
      show own_Go p e below _ (T36.setTop (mkF m 132 #[.val (.long fr), .second, .val (.long a1), .second, .val (.long tr), .second, .val (.long b1), .second, .val (.long er), .second, .val (.int fg), .val (.long fv), .second, .val (.long tv), .second, .val (.long ev), .second, .val (.int (1 : Int32)), .val (.long b1), .second, .unset, .unset] [(.ref pv)]))
      refine own_st (V := T36.setTop (mkF m 140 #[.val (.long fr), .second, .val (.long a1), .second, .val (.long tr), .second, .val (.long b1), .second, .val (.long er), .second, .val (.int fg), .val (.long fv), .second, .val (.long tv), .second, .val (.long ev), .second, .val (.int (1 : Int32)), .val (.long b1), .second, .val (.ref pv), .unset] [(.long (a1 + tv)), (.ref pv)])) (fun tgt k => ?_) ?_
      · show Steps p.tables e below (T36.setTop (mkF m 132 #[.val (.long fr), .second, .val (.long a1), .second, .val (.long tr), .second, .val (.long b1), .second, .val (.long er), .second, .val (.int fg), .val (.long fv), .second, .val (.long tv), .second, .val (.long ev), .second, .val (.int (1 : Int32)), .val (.long b1), .second, .unset, .unset] [(.ref pv)])) tgt
        refine XS.astore X36.here hx rfl (hb hby at_132) rfl rfl (l' := #[.val (.long fr), .second, .val (.long a1), .second, .val (.long tr), .second, .val (.long b1), .second, .val (.long er), .second, .val (.int fg), .val (.long fv), .second, .val (.long tv), .second, .val (.long ev), .second, .val (.int (1 : Int32)), .val (.long b1), .second, .val (.ref pv), .unset]) rfl ?_
        show Steps p.tables e below (T36.setTop (mkF m 134 #[.val (.long fr), .second, .val (.long a1), .second, .val (.long tr), .second, .val (.long b1), .second, .val (.long er), .second, .val (.int fg), .val (.long fv), .second, .val (.long tv), .second, .val (.long ev), .second, .val (.int (1 : Int32)), .val (.long b1), .second, .val (.ref pv), .unset] [])) tgt
        refine XS.aload X36.here hx rfl (hb hby at_134) rfl rfl ?_
        show Steps p.tables e below (T36.setTop (mkF m 136 #[.val (.long fr), .second, .val (.long a1), .second, .val (.long tr), .second, .val (.long b1), .second, .val (.long er), .second, .val (.int fg), .val (.long fv), .second, .val (.long tv), .second, .val (.long ev), .second, .val (.int (1 : Int32)), .val (.long b1), .second, .val (.ref pv), .unset] [(.ref pv)])) tgt
        refine XS.lloadN X36.here hx rfl (hb hby at_136) rfl ?_
        show Steps p.tables e below (T36.setTop (mkF m 137 #[.val (.long fr), .second, .val (.long a1), .second, .val (.long tr), .second, .val (.long b1), .second, .val (.long er), .second, .val (.int fg), .val (.long fv), .second, .val (.long tv), .second, .val (.long ev), .second, .val (.int (1 : Int32)), .val (.long b1), .second, .val (.ref pv), .unset] [(.long a1), (.ref pv)])) tgt
        refine XS.lload X36.here hx rfl (hb hby at_137) rfl ?_
        show Steps p.tables e below (T36.setTop (mkF m 139 #[.val (.long fr), .second, .val (.long a1), .second, .val (.long tr), .second, .val (.long b1), .second, .val (.long er), .second, .val (.int fg), .val (.long fv), .second, .val (.long tv), .second, .val (.long ev), .second, .val (.int (1 : Int32)), .val (.long b1), .second, .val (.ref pv), .unset] [(.long tv), (.long a1), (.ref pv)])) tgt
        refine XS.ladd X36.here hx rfl (hb hby at_139) rfl ?_
        exact k
      obtain ⟨cq37, kq37, q37a, q37b, q37c⟩ := isOf hZ rfl g36_0
      obtain ⟨_, _, ⟨T37, L37, k37, n37⟩, -, X37, ⟨Lc37, hQ37, l37, y37, z37⟩, st37⟩ := X36.virtualBack hx (y := (⟨"com/example/headwater/headwater/connectors/ListingPace", "ended", "(J)V"⟩ : MethodName)) (z := (⟨"com/example/headwater/headwater/connectors/ListingPace", "ended", "(J)V"⟩ : MethodName)) hown (mvT hZ (hw _ (List.mem_of_getElem? (i := 14) rfl))) (mvT hZ (hw _ (List.mem_of_getElem? (i := 15) rfl))) (notFace_of_selects (args := #[]) (mvT hZ (hw _ (List.mem_of_getElem? (i := 17) rfl)))) (mvT hZ (hw _ (List.mem_of_getElem? (i := 17) rfl))) (mvT hZ (hw _ (List.mem_of_getElem? (i := 16) rfl))) (by decide) (backOf (W := 0) (rm3 l Z a0 hw [] pv (a1 + tv) fv a1 (0 : Int64) T36.heap n0 Zs36 g36_0 g36_1 g36_2 g36_3 g_pv) hZ (hw _ (List.mem_of_getElem? (i := 18) rfl)) (hw _ (List.mem_of_getElem? (i := 3) rfl)) (by decide) (by decide)) q37a q37c (g := (mkF m 140 #[.val (.long fr), .second, .val (.long a1), .second, .val (.long tr), .second, .val (.long b1), .second, .val (.long er), .second, .val (.int fg), .val (.long fv), .second, .val (.long tv), .second, .val (.long ev), .second, .val (.int (1 : Int32)), .val (.long b1), .second, .val (.ref pv), .unset] [(.long (a1 + tv)), (.ref pv)])) rfl (by rw [hml]; rfl) (Steps.refl _) (argsL := [(.long (a1 + tv))]) (rest := []) (lenOf pd_0_2 rfl) rfl (by show 2 * 0 + _ ≤ _; exact Nat.le_of_eq rfl) (hb hby at_140) (fun _ _ => ⟨rfl, rfl, (by decide : 1 + 0 ≤ _), (by decide : 3 + 0 ≤ _)⟩)
      dsimp only [Pt.U, Pt.locs, Pt.cells, Pt.slots] at X37 l37 y37 z37 st37 hQ37
      subst l37 y37 z37
      obtain ⟨rfl, N37q, K37, g37_0, g37_1, g37_2, g37_3⟩ := hQ37
      have N37 := Fr.app N36 N37q
      have E_pv_37 := g36_0.keep K37
      have Zs37 : n0 ≤ T37.heap.size := Nat.le_trans Zs36 K37.1
      refine own_st (fun tgt k => st37.trans k) ?_
      show own_Go p e below _ (T37.setTop (mkF m 143 #[.val (.long fr), .second, .val (.long a1), .second, .val (.long tr), .second, .val (.long b1), .second, .val (.long er), .second, .val (.int fg), .val (.long fv), .second, .val (.long tv), .second, .val (.long ev), .second, .val (.int (1 : Int32)), .val (.long b1), .second, .val (.ref pv), .unset] []))
      refine own_st (V := T37.setTop (mkF m 152 #[.val (.long fr), .second, .val (.long a1), .second, .val (.long tr), .second, .val (.long b1), .second, .val (.long er), .second, .val (.int fg), .val (.long fv), .second, .val (.long tv), .second, .val (.long ev), .second, .val (.int (1 : Int32)), .val (.long b1), .second, .val (.ref pv), .unset] [(.long b1), (.ref pv)])) (fun tgt k => ?_) ?_
      · show Steps p.tables e below (T37.setTop (mkF m 143 #[.val (.long fr), .second, .val (.long a1), .second, .val (.long tr), .second, .val (.long b1), .second, .val (.long er), .second, .val (.int fg), .val (.long fv), .second, .val (.long tv), .second, .val (.long ev), .second, .val (.int (1 : Int32)), .val (.long b1), .second, .val (.ref pv), .unset] [])) tgt
        refine XS.iload X37.here hx rfl (hb hby at_143) rfl ?_
        show Steps p.tables e below (T37.setTop (mkF m 145 #[.val (.long fr), .second, .val (.long a1), .second, .val (.long tr), .second, .val (.long b1), .second, .val (.long er), .second, .val (.int fg), .val (.long fv), .second, .val (.long tv), .second, .val (.long ev), .second, .val (.int (1 : Int32)), .val (.long b1), .second, .val (.ref pv), .unset] [(.int (1 : Int32))])) tgt
        refine XS.ifNo X37.here hx rfl (hb hby at_145) rfl ((if0 _ _).trans (feq (by decide : ¬ ((1 : Int32) = (0 : Int32)))).1) ?_
        show Steps p.tables e below (T37.setTop (mkF m 148 #[.val (.long fr), .second, .val (.long a1), .second, .val (.long tr), .second, .val (.long b1), .second, .val (.long er), .second, .val (.int fg), .val (.long fv), .second, .val (.long tv), .second, .val (.long ev), .second, .val (.int (1 : Int32)), .val (.long b1), .second, .val (.ref pv), .unset] [])) tgt
        refine XS.aload X37.here hx rfl (hb hby at_148) rfl rfl ?_
        show Steps p.tables e below (T37.setTop (mkF m 150 #[.val (.long fr), .second, .val (.long a1), .second, .val (.long tr), .second, .val (.long b1), .second, .val (.long er), .second, .val (.int fg), .val (.long fv), .second, .val (.long tv), .second, .val (.long ev), .second, .val (.int (1 : Int32)), .val (.long b1), .second, .val (.ref pv), .unset] [(.ref pv)])) tgt
        refine XS.lload X37.here hx rfl (hb hby at_150) rfl ?_
        exact k
      obtain ⟨cq38, kq38, q38a, q38b, q38c⟩ := isOf hZ rfl g37_0
      obtain ⟨_, _, ⟨T38, L38, k38, n38⟩, -, X38, ⟨Lc38, hQ38, l38, y38, z38⟩, st38⟩ := X37.virtualBack hx (y := (⟨"com/example/headwater/headwater/connectors/ListingPace", "began", "(J)V"⟩ : MethodName)) (z := (⟨"com/example/headwater/headwater/connectors/ListingPace", "began", "(J)V"⟩ : MethodName)) hown (mvT hZ (hw _ (List.mem_of_getElem? (i := 37) rfl))) (mvT hZ (hw _ (List.mem_of_getElem? (i := 38) rfl))) (notFace_of_selects (args := #[]) (mvT hZ (hw _ (List.mem_of_getElem? (i := 40) rfl)))) (mvT hZ (hw _ (List.mem_of_getElem? (i := 40) rfl))) (mvT hZ (hw _ (List.mem_of_getElem? (i := 39) rfl))) (by decide) (backOf (W := 0) (rm7 l Z a0 hw [] pv b1 fv a1 ((a1 + tv) - a1) T37.heap n0 Zs37 g37_0 g37_1 g37_2 g37_3 g_pv) hZ (hw _ (List.mem_of_getElem? (i := 41) rfl)) (hw _ (List.mem_of_getElem? (i := 3) rfl)) (by decide) (by decide)) q38a q38c (g := (mkF m 152 #[.val (.long fr), .second, .val (.long a1), .second, .val (.long tr), .second, .val (.long b1), .second, .val (.long er), .second, .val (.int fg), .val (.long fv), .second, .val (.long tv), .second, .val (.long ev), .second, .val (.int (1 : Int32)), .val (.long b1), .second, .val (.ref pv), .unset] [(.long b1), (.ref pv)])) rfl (by rw [hml]; rfl) (Steps.refl _) (argsL := [(.long b1)]) (rest := []) (lenOf pd_0_2 rfl) rfl (by show 2 * 0 + _ ≤ _; exact Nat.le_of_eq rfl) (hb hby at_152) (fun _ _ => ⟨rfl, rfl, (by decide : 1 + 0 ≤ _), (by decide : 3 + 0 ≤ _)⟩)
      dsimp only [Pt.U, Pt.locs, Pt.cells, Pt.slots] at X38 l38 y38 z38 st38 hQ38
      subst l38 y38 z38
      obtain ⟨rfl, N38q, K38, g38_0, g38_1, g38_2, g38_3⟩ := hQ38
      have N38 := Fr.app N37 N38q
      have E_pv_38 := g37_0.keep K38
      have Zs38 : n0 ≤ T38.heap.size := Nat.le_trans Zs37 K38.1
      refine own_st (fun tgt k => st38.trans k) ?_
      show own_Go p e below _ (T38.setTop (mkF m 155 #[.val (.long fr), .second, .val (.long a1), .second, .val (.long tr), .second, .val (.long b1), .second, .val (.long er), .second, .val (.int fg), .val (.long fv), .second, .val (.long tv), .second, .val (.long ev), .second, .val (.int (1 : Int32)), .val (.long b1), .second, .val (.ref pv), .unset] []))
      refine own_st (V := T38.setTop (mkF m 162 #[.val (.long fr), .second, .val (.long a1), .second, .val (.long tr), .second, .val (.long b1), .second, .val (.long er), .second, .val (.int fg), .val (.long fv), .second, .val (.long tv), .second, .val (.long ev), .second, .val (.int (1 : Int32)), .val (.long b1), .second, .val (.ref pv), .unset] [(.long (b1 + ev)), (.ref pv)])) (fun tgt k => ?_) ?_
      · show Steps p.tables e below (T38.setTop (mkF m 155 #[.val (.long fr), .second, .val (.long a1), .second, .val (.long tr), .second, .val (.long b1), .second, .val (.long er), .second, .val (.int fg), .val (.long fv), .second, .val (.long tv), .second, .val (.long ev), .second, .val (.int (1 : Int32)), .val (.long b1), .second, .val (.ref pv), .unset] [])) tgt
        refine XS.aload X38.here hx rfl (hb hby at_155) rfl rfl ?_
        show Steps p.tables e below (T38.setTop (mkF m 157 #[.val (.long fr), .second, .val (.long a1), .second, .val (.long tr), .second, .val (.long b1), .second, .val (.long er), .second, .val (.int fg), .val (.long fv), .second, .val (.long tv), .second, .val (.long ev), .second, .val (.int (1 : Int32)), .val (.long b1), .second, .val (.ref pv), .unset] [(.ref pv)])) tgt
        refine XS.lload X38.here hx rfl (hb hby at_157) rfl ?_
        show Steps p.tables e below (T38.setTop (mkF m 159 #[.val (.long fr), .second, .val (.long a1), .second, .val (.long tr), .second, .val (.long b1), .second, .val (.long er), .second, .val (.int fg), .val (.long fv), .second, .val (.long tv), .second, .val (.long ev), .second, .val (.int (1 : Int32)), .val (.long b1), .second, .val (.ref pv), .unset] [(.long b1), (.ref pv)])) tgt
        refine XS.lload X38.here hx rfl (hb hby at_159) rfl ?_
        show Steps p.tables e below (T38.setTop (mkF m 161 #[.val (.long fr), .second, .val (.long a1), .second, .val (.long tr), .second, .val (.long b1), .second, .val (.long er), .second, .val (.int fg), .val (.long fv), .second, .val (.long tv), .second, .val (.long ev), .second, .val (.int (1 : Int32)), .val (.long b1), .second, .val (.ref pv), .unset] [(.long ev), (.long b1), (.ref pv)])) tgt
        refine XS.ladd X38.here hx rfl (hb hby at_161) rfl ?_
        exact k
      obtain ⟨cq39, kq39, q39a, q39b, q39c⟩ := isOf hZ rfl g38_0
      obtain ⟨_, _, ⟨T39, L39, k39, n39⟩, -, X39, ⟨Lc39, hQ39, l39, y39, z39⟩, st39⟩ := X38.virtualBack hx (y := (⟨"com/example/headwater/headwater/connectors/ListingPace", "allows", "(J)Z"⟩ : MethodName)) (z := (⟨"com/example/headwater/headwater/connectors/ListingPace", "allows", "(J)Z"⟩ : MethodName)) hown (mvT hZ (hw _ (List.mem_of_getElem? (i := 21) rfl))) (mvT hZ (hw _ (List.mem_of_getElem? (i := 22) rfl))) (notFace_of_selects (args := #[]) (mvT hZ (hw _ (List.mem_of_getElem? (i := 24) rfl)))) (mvT hZ (hw _ (List.mem_of_getElem? (i := 24) rfl))) (mvT hZ (hw _ (List.mem_of_getElem? (i := 23) rfl))) (by decide) (backOf (W := 0) (rm4 l Z a0 hw [] pv (b1 + ev) fv b1 ((a1 + tv) - a1) T38.heap n0 Zs38 g38_0 g38_1 g38_2 g38_3 (own_nz64 hf1)) hZ (hw _ (List.mem_of_getElem? (i := 25) rfl)) (hw _ (List.mem_of_getElem? (i := 3) rfl)) (by decide) (by decide)) q39a q39c (g := (mkF m 162 #[.val (.long fr), .second, .val (.long a1), .second, .val (.long tr), .second, .val (.long b1), .second, .val (.long er), .second, .val (.int fg), .val (.long fv), .second, .val (.long tv), .second, .val (.long ev), .second, .val (.int (1 : Int32)), .val (.long b1), .second, .val (.ref pv), .unset] [(.long (b1 + ev)), (.ref pv)])) rfl (by rw [hml]; rfl) (Steps.refl _) (argsL := [(.long (b1 + ev))]) (rest := []) (lenOf pd_0_3 rfl) rfl (by show 2 * 0 + _ ≤ _; exact Nat.le_of_eq rfl) (hb hby at_162) (fun _ _ => ⟨rfl, rfl, (by decide : 1 + 0 ≤ _), (by decide : 3 + 0 ≤ _)⟩)
      dsimp only [Pt.U, Pt.locs, Pt.cells, Pt.slots] at X39 l39 y39 z39 st39 hQ39
      subst l39 y39 z39
      obtain ⟨rfl, N39q, K39⟩ := hQ39
      have N39 := Fr.app N38 N39q
      refine own_st (fun tgt k => st39.trans k) ?_
      show own_Go p e below _ (T39.setTop (mkF m 165 #[.val (.long fr), .second, .val (.long a1), .second, .val (.long tr), .second, .val (.long b1), .second, .val (.long er), .second, .val (.int fg), .val (.long fv), .second, .val (.long tv), .second, .val (.long ev), .second, .val (.int (1 : Int32)), .val (.long b1), .second, .val (.ref pv), .unset] [(.int (own_A fv b1 ((a1 + tv) - a1) (b1 + ev)))]))
      refine own_st (V := T39.setTop (mkF m 175 #[.val (.long fr), .second, .val (.long a1), .second, .val (.long tr), .second, .val (.long b1), .second, .val (.long er), .second, .val (.int fg), .val (.long fv), .second, .val (.long tv), .second, .val (.long ev), .second, .val (.int (1 : Int32)), .val (.long b1), .second, .val (.ref pv), .val (.int (own_A fv b1 ((a1 + tv) - a1) (b1 + ev)))] [(.long ev), (.long tv), (.long fv), (.int (own_A fv b1 ((a1 + tv) - a1) (b1 + ev)))])) (fun tgt k => ?_) ?_
      · show Steps p.tables e below (T39.setTop (mkF m 165 #[.val (.long fr), .second, .val (.long a1), .second, .val (.long tr), .second, .val (.long b1), .second, .val (.long er), .second, .val (.int fg), .val (.long fv), .second, .val (.long tv), .second, .val (.long ev), .second, .val (.int (1 : Int32)), .val (.long b1), .second, .val (.ref pv), .unset] [(.int (own_A fv b1 ((a1 + tv) - a1) (b1 + ev)))])) tgt
        refine XS.istore X39.here hx rfl (hb hby at_165) rfl (l' := #[.val (.long fr), .second, .val (.long a1), .second, .val (.long tr), .second, .val (.long b1), .second, .val (.long er), .second, .val (.int fg), .val (.long fv), .second, .val (.long tv), .second, .val (.long ev), .second, .val (.int (1 : Int32)), .val (.long b1), .second, .val (.ref pv), .val (.int (own_A fv b1 ((a1 + tv) - a1) (b1 + ev)))]) rfl ?_
        show Steps p.tables e below (T39.setTop (mkF m 167 #[.val (.long fr), .second, .val (.long a1), .second, .val (.long tr), .second, .val (.long b1), .second, .val (.long er), .second, .val (.int fg), .val (.long fv), .second, .val (.long tv), .second, .val (.long ev), .second, .val (.int (1 : Int32)), .val (.long b1), .second, .val (.ref pv), .val (.int (own_A fv b1 ((a1 + tv) - a1) (b1 + ev)))] [])) tgt
        refine XS.iload X39.here hx rfl (hb hby at_167) rfl ?_
        show Steps p.tables e below (T39.setTop (mkF m 169 #[.val (.long fr), .second, .val (.long a1), .second, .val (.long tr), .second, .val (.long b1), .second, .val (.long er), .second, .val (.int fg), .val (.long fv), .second, .val (.long tv), .second, .val (.long ev), .second, .val (.int (1 : Int32)), .val (.long b1), .second, .val (.ref pv), .val (.int (own_A fv b1 ((a1 + tv) - a1) (b1 + ev)))] [(.int (own_A fv b1 ((a1 + tv) - a1) (b1 + ev)))])) tgt
        refine XS.lload X39.here hx rfl (hb hby at_169) rfl ?_
        show Steps p.tables e below (T39.setTop (mkF m 171 #[.val (.long fr), .second, .val (.long a1), .second, .val (.long tr), .second, .val (.long b1), .second, .val (.long er), .second, .val (.int fg), .val (.long fv), .second, .val (.long tv), .second, .val (.long ev), .second, .val (.int (1 : Int32)), .val (.long b1), .second, .val (.ref pv), .val (.int (own_A fv b1 ((a1 + tv) - a1) (b1 + ev)))] [(.long fv), (.int (own_A fv b1 ((a1 + tv) - a1) (b1 + ev)))])) tgt
        refine XS.lload X39.here hx rfl (hb hby at_171) rfl ?_
        show Steps p.tables e below (T39.setTop (mkF m 173 #[.val (.long fr), .second, .val (.long a1), .second, .val (.long tr), .second, .val (.long b1), .second, .val (.long er), .second, .val (.int fg), .val (.long fv), .second, .val (.long tv), .second, .val (.long ev), .second, .val (.int (1 : Int32)), .val (.long b1), .second, .val (.ref pv), .val (.int (own_A fv b1 ((a1 + tv) - a1) (b1 + ev)))] [(.long tv), (.long fv), (.int (own_A fv b1 ((a1 + tv) - a1) (b1 + ev)))])) tgt
        refine XS.lload X39.here hx rfl (hb hby at_173) rfl ?_
        exact k
      obtain ⟨_, _, ⟨T40, L40, k40, n40⟩, -, X40, ⟨Lc40, hQ40, l40, y40, z40⟩, st40⟩ := Jvm.LawKit.callS X39 hx (y := (⟨"com/example/headwater/headwater/connectors/ListingPaceAllowsPinLaw", "expected", "(JJJ)Z"⟩ : MethodName)) hown (mvT hZ (hw _ (List.mem_of_getElem? (i := 26) rfl))) (mvT hZ (hw _ (List.mem_of_getElem? (i := 27) rfl))) (mvT hZ (hw _ (List.mem_of_getElem? (i := 28) rfl))) (mvT hZ (hw _ (List.mem_of_getElem? (i := 29) rfl))) (by decide) (backOf (W := 1) (rm5 l Z a0 hw [] fv tv ev T38.heap n0 Zs38 ) hZ (hw _ (List.mem_of_getElem? (i := 29) rfl)) (hw _ (List.mem_of_getElem? (i := 28) rfl)) (by decide) (by decide)) (g := (mkF m 175 #[.val (.long fr), .second, .val (.long a1), .second, .val (.long tr), .second, .val (.long b1), .second, .val (.long er), .second, .val (.int fg), .val (.long fv), .second, .val (.long tv), .second, .val (.long ev), .second, .val (.int (1 : Int32)), .val (.long b1), .second, .val (.ref pv), .val (.int (own_A fv b1 ((a1 + tv) - a1) (b1 + ev)))] [(.long ev), (.long tv), (.long fv), (.int (own_A fv b1 ((a1 + tv) - a1) (b1 + ev)))])) rfl (by rw [hml]; rfl) (argsL := [(.long fv), (.long tv), (.long ev)]) (rest := [(.int (own_A fv b1 ((a1 + tv) - a1) (b1 + ev)))]) (lenOf pd_0_4 rfl) rfl (by show 2 * 0 + _ ≤ _; exact Nat.le_of_eq rfl) (hb hby at_175) (fun _ _ => ⟨rfl, K39, (by decide : 1 + 0 ≤ _), (by decide : 3 + 0 ≤ _)⟩)
      dsimp only [Pt.U, Pt.locs, Pt.cells, Pt.slots] at X40 l40 y40 z40 st40 hQ40
      subst l40 y40 z40
      obtain ⟨rfl, N40q, K40⟩ := hQ40
      have N40 := Fr.app N39 N40q
      refine own_st st40 ?_
      show own_Go p e below _ (T40.setTop (mkF m 178 #[.val (.long fr), .second, .val (.long a1), .second, .val (.long tr), .second, .val (.long b1), .second, .val (.long er), .second, .val (.int fg), .val (.long fv), .second, .val (.long tv), .second, .val (.long ev), .second, .val (.int (1 : Int32)), .val (.long b1), .second, .val (.ref pv), .val (.int (own_A fv b1 ((a1 + tv) - a1) (b1 + ev)))] [(.int (own_E fv tv ev)), (.int (own_A fv b1 ((a1 + tv) - a1) (b1 + ev)))]))
      refine own_st (V := T40.setTop (mkF m 186 #[.val (.long fr), .second, .val (.long a1), .second, .val (.long tr), .second, .val (.long b1), .second, .val (.long er), .second, .val (.int fg), .val (.long fv), .second, .val (.long tv), .second, .val (.long ev), .second, .val (.int (1 : Int32)), .val (.long b1), .second, .val (.ref pv), .val (.int (own_A fv b1 ((a1 + tv) - a1) (b1 + ev)))] [(.int (1 : Int32))])) (fun tgt k => ?_) ?_
      · show Steps p.tables e below (T40.setTop (mkF m 178 #[.val (.long fr), .second, .val (.long a1), .second, .val (.long tr), .second, .val (.long b1), .second, .val (.long er), .second, .val (.int fg), .val (.long fv), .second, .val (.long tv), .second, .val (.long ev), .second, .val (.int (1 : Int32)), .val (.long b1), .second, .val (.ref pv), .val (.int (own_A fv b1 ((a1 + tv) - a1) (b1 + ev)))] [(.int (own_E fv tv ev)), (.int (own_A fv b1 ((a1 + tv) - a1) (b1 + ev)))])) tgt
        refine XS.icmpNo X40.here hx rfl (hb hby at_178) rfl (teq (own_law _ _ _ _ _ hf1 ht0 he0)).2 ?_
        show Steps p.tables e below (T40.setTop (mkF m 181 #[.val (.long fr), .second, .val (.long a1), .second, .val (.long tr), .second, .val (.long b1), .second, .val (.long er), .second, .val (.int fg), .val (.long fv), .second, .val (.long tv), .second, .val (.long ev), .second, .val (.int (1 : Int32)), .val (.long b1), .second, .val (.ref pv), .val (.int (own_A fv b1 ((a1 + tv) - a1) (b1 + ev)))] [])) tgt
        refine XS.iconst X40.here hx rfl (hb hby at_181) ?_
        show Steps p.tables e below (T40.setTop (mkF m 182 #[.val (.long fr), .second, .val (.long a1), .second, .val (.long tr), .second, .val (.long b1), .second, .val (.long er), .second, .val (.int fg), .val (.long fv), .second, .val (.long tv), .second, .val (.long ev), .second, .val (.int (1 : Int32)), .val (.long b1), .second, .val (.ref pv), .val (.int (own_A fv b1 ((a1 + tv) - a1) (b1 + ev)))] [(.int (1 : Int32))])) tgt
        refine XS.goto X40.here hx rfl (pc0 := 182) (pc' := 186) rfl (hb hby at_182) (by decide) (by decide) ?_
        exact k
      refine own_retN X40 hx hlk (t := .boolean) (z' := (1 : Int32)) Bd.returns (by simp) rfl (hb hby at_186) ?_ (by decide) (by decide)
      show Q0 Z fr a1 tr b1 er fg h0 n0 (some (.int (1 : Int32))) T40.heap _
      rw [K40]
      exact ⟨rfl, N40⟩
set_option maxRecDepth 65536 in
set_option maxHeartbeats 40000000 in
theorem comes_1 {Post : Tables → Env → Array Value → State → Outcome → State → Prop} (hpost : ∀ tb e args s v u, (limb_1_1.after args s (.returned v) u = true ∧ limb_1_2.after args s (.returned v) u = true ∧ True) → FrameEnd s (.returned v) u (Jvm.fieldLocs frame_1_writes args s ++ Jvm.arrayLocs frame_1_arrays args s ++ Jvm.staticLocs frame_1_statics s) 16 128 → Post tb e args s (.returned v) u) :
    ArmFor flags0 classFile x code maxLocals ret World_1 tables_1 room_1 Calls_1 rest_1 Pre_1 Post := by
  intro l hfl _ _ p e ha hc hk s m args below hf hA hF happ hP
  obtain ⟨hcalls, hrest, hpre⟩ := hP
  obtain ⟨-, -, -, hnamed, -, -, -, hat⟩ := (Spec.applies_iff hf).mp happ
  obtain ⟨hg, hn⟩ := and_e (Cond.before_iff.mp (show (Jvm.Cond.and given_1 narrow_1).before args s = true from hpre))
  obtain ⟨hcount, g0⟩ := and_e hg
  obtain ⟨a0, g1⟩ := and_e g0
  obtain ⟨a1, g2⟩ := and_e g1
  obtain ⟨a2, g3⟩ := and_e g2
  obtain ⟨a3, g4⟩ := and_e g3
  obtain ⟨a4, g5⟩ := and_e g4
  have a5 := g5
  obtain ⟨w0, w1, w2, w3, w4, w5, rfl⟩ : ∃ w0 w1 w2 w3 w4 w5 : Value, args = #[w0, w1, w2, w3, w4, w5] := by
    have hs : args.size = 6 := by simpa [Cond.value, given_1] using hcount
    obtain ⟨L⟩ := args
    match L, hs with
    | [w0, w1, w2, w3, w4, w5], _ => exact ⟨w0, w1, w2, w3, w4, w5, rfl⟩
  have hw := fun d (hd : d ∈ tables_1) => atoms_spec (ws := Jvm.Cond.code x code maxLocals ret :: tables_1) hat d (List.mem_cons_of_mem _ hd)
  obtain ⟨i0, ei0⟩ := isL_v a0
  obtain rfl : w0 = (.long i0) := Option.some.inj ei0
  obtain ⟨i1, ei1⟩ := isL_v a1
  obtain rfl : w1 = (.long i1) := Option.some.inj ei1
  obtain ⟨i2, ei2⟩ := isL_v a2
  obtain rfl : w2 = (.long i2) := Option.some.inj ei2
  obtain ⟨i3, ei3⟩ := isL_v a3
  obtain rfl : w3 = (.long i3) := Option.some.inj ei3
  obtain ⟨i4, ei4⟩ := isL_v a4
  obtain rfl : w4 = (.long i4) := Option.some.inj ei4
  obtain ⟨i5, ei5⟩ := is_v a5
  obtain rfl : w5 = (.int i5) := Option.some.inj ei5
  obtain ⟨n, o, h1, h2, h3, _, L, rfl, ⟨rfl, N⟩, hq⟩ := rm0 l s _ hw tables_1 i0 i1 i2 i3 i4 i5 s.heap s.heap.size (Nat.le_refl _) p e ha hc hk s m _ below hf ((Spec.applies_iff_loose hf).mp happ).1 ⟨rfl, State.Warmed39.refl s, rfl⟩ trivial
  refine ⟨n, _, h1, h2, h3, hpost _ _ _ _ _ _ ⟨Cond.after_iff.mpr rfl, Cond.after_iff.mpr (eq_i res_at (Term.int_eval (1)) rfl), trivial⟩ ⟨hq.1, hq.2.1, (hq.2.2.sift fun y hy => Or.inr (N y hy)).mono (by decide) (by decide)⟩⟩
theorem main_1_1 : Claimed_1_1 := comes_1 fun _ _ _ _ _ _ h hF => ⟨h.1, hF⟩
theorem main_1_2 : Claimed_1_2 := comes_1 fun _ _ _ _ _ _ h hF => ⟨h.2.1, hF⟩
end Jvm.Pilot.@@N@@
namespace Jvm.Pilot.@@N@@
open Jvm Jvm.ClassFile Sem Op Lib Jvm.Free Jvm.Stand Jvm.Pilot.@@N@@.Jvm.D
/-! MADE BY PROGRAM (witnessworld.py) out of the Statement's table words and the real class files: 10 classes; the members and pool entries that the words name. The judged class is class 1, her method 1. -/
namespace start1
open Jvm.ClassFile
def u (s : String) : CpInfo := .utf8 (stringToUtf16 s)
/-- a pool by its gaps: so many unusable entries, then the entry; so many at the end -/
def gap : Nat → List CpInfo → List CpInfo
  | 0, r => r
  | n + 1, r => .unusable :: gap n r
def poolList (es : List (Nat × CpInfo)) (last : Nat) : List CpInfo := es.foldr (fun e r => gap e.1 (e.2 :: r)) (gap last [])
def pool (es : List (Nat × CpInfo)) (last : Nat) : Array CpInfo := ⟨poolList es last⟩
def fileOf (pool : Array CpInfo) (this : Nat) (attrs : Array Attribute := #[]) (ms : Array MethodInfo := #[]) (fl : Nat := 33) (sup : Nat := 0) (ifs : Array Nat := #[]) (fds : Array FieldInfo := #[]) : ClassFile where
  minorVersion := 0
  majorVersion := 65
  constantPool := pool
  accessFlags := fl
  thisClass := this
  superClass := sup
  interfaces := ifs
  fields := fds
  methods := ms
  attributes := attrs
def plain (name : String) (sup : Option ClassId) : Class where
  name := name
  kind := .ordinary
  loader := none
  accessFlags := 33
  super := sup
  interfaces := #[]
  cf := none
  fields := #[]
  methods := #[]
  instanceTypes := #[]
  staticTypes := #[]
  resolved := #[]
  callSites := []
  init := .initialized
  statics := none
  mirror := none

def pool0 : Array CpInfo := pool [(5, u "<init>"), (0, u "()V"), (1, .class_ 10), (1, u "java/lang/Object")] 113

def k0c0 : Code := { maxStack := 0, maxLocals := 1, code := object_method_1_code, exceptionTable := #[], attributes := #[] }
def k0m0 : Method := { name := "<init>", desc := "()V", sig := { parameters := [], returnType := none }, accessFlags := 1, code := some k0c0 }
/-- java/lang/Object -/
def k0 : Class := { plain "java/lang/Object" none with
  accessFlags := 33
  interfaces := #[]
  cf := some (fileOf pool0 8 #[] #[{ accessFlags := 1, nameIndex := 5, descriptorIndex := 6, attributes := #[] }] 33 0 #[] #[])
  fields := #[]
  methods := #[k0m0]
  instanceTypes := #[]
  staticTypes := #[]
  resolved := Array.replicate 124 none
  statics := none }

def pool1 : Array CpInfo := pool [(2, .class_ 4), (1, u "java/lang/Object"), (0, u "<init>"), (0, u "()V"), (0, .long 65535), (1, .long 3), (1, .long 2), (1, .methodref 14 15), (0, .class_ 16), (0, .nameAndType 17 18), (0, u "java/lang/Math"), (0, u "max"), (0, u "(JJ)J"), (2, .long 9223372036854775807), (1, .class_ 24), (0, u "com/example/headwater/headwater/connectors/ListingPace"), (0, .methodref 23 26), (0, .nameAndType 5 27), (0, u "(JJ)V"), (0, .methodref 23 29), (0, .nameAndType 30 31), (0, u "ended"), (0, u "(J)V"), (0, .methodref 23 33), (0, .nameAndType 34 31), (0, u "began"), (0, .methodref 23 36), (0, .nameAndType 37 38), (0, u "allows"), (0, u "(J)Z"), (0, .methodref 40 41), (0, .class_ 42), (0, .nameAndType 43 44), (0, u "com/example/headwater/headwater/connectors/ListingPaceAllowsPinLaw"), (0, u "expected"), (0, u "(JJJ)Z"), (2, u "law"), (0, u "(JJJJJI)Z")] 3

def k1m0 : Method := { name := "<init>", desc := "()V", sig := { parameters := [], returnType := none }, accessFlags := 1, code := none }
def k1c1 : Code := { maxStack := 7, maxLocals := 22, code := code, exceptionTable := #[], attributes := #[] }
def k1m1 : Method := { name := "law", desc := "(JJJJJI)Z", sig := { parameters := [.long, .long, .long, .long, .long, .int], returnType := some .boolean }, accessFlags := 9, code := some k1c1 }
def k1c2 : Code := { maxStack := 6, maxLocals := 6, code := method_3_code, exceptionTable := #[], attributes := #[] }
def k1m2 : Method := { name := "expected", desc := "(JJJ)Z", sig := { parameters := [.long, .long, .long], returnType := some .boolean }, accessFlags := 10, code := some k1c2 }
/-- com/example/headwater/headwater/connectors/ListingPaceAllowsPinLaw -/
def k1 : Class := { plain "com/example/headwater/headwater/connectors/ListingPaceAllowsPinLaw" (some 0) with
  accessFlags := 49
  interfaces := #[]
  cf := some (fileOf pool1 40 #[] #[{ accessFlags := 1, nameIndex := 5, descriptorIndex := 6, attributes := #[] }, { accessFlags := 9, nameIndex := 47, descriptorIndex := 48, attributes := #[] }, { accessFlags := 10, nameIndex := 43, descriptorIndex := 44, attributes := #[] }] 49 2 #[] #[])
  fields := #[]
  methods := #[k1m0, k1m1, k1m2]
  instanceTypes := #[]
  staticTypes := #[]
  resolved := Array.replicate 52 none
  statics := none }

def pool2 : Array CpInfo := pool [(1, .methodref 2 3), (0, .class_ 4), (0, .nameAndType 5 6), (0, u "java/lang/Object"), (0, u "<init>"), (0, u "()V"), (0, .fieldref 8 9), (0, .class_ 10), (0, .nameAndType 11 12), (0, u "com/example/headwater/headwater/connectors/ListingPace"), (0, u "factor"), (0, u "J"), (0, .fieldref 8 14), (0, .nameAndType 15 12), (0, u "began"), (0, .fieldref 8 17), (0, .nameAndType 18 12), (0, u "took"), (4, u "RELISTING_FACTOR"), (3, u "(JJ)V"), (2, u "allows"), (0, u "(J)Z"), (3, u "(J)V"), (0, u "ended")] 2

def k2c0 : Code := { maxStack := 3, maxLocals := 5, code := prog_29_method_1_code, exceptionTable := #[], attributes := #[] }
def k2m0 : Method := { name := "<init>", desc := "(JJ)V", sig := { parameters := [.long, .long], returnType := none }, accessFlags := 0, code := some k2c0 }
def k2c1 : Code := { maxStack := 4, maxLocals := 3, code := prog_29_method_2_code, exceptionTable := #[], attributes := #[] }
def k2m1 : Method := { name := "allows", desc := "(J)Z", sig := { parameters := [.long], returnType := some .boolean }, accessFlags := 0, code := some k2c1 }
def k2c2 : Code := { maxStack := 3, maxLocals := 3, code := prog_29_method_4_code, exceptionTable := #[], attributes := #[] }
def k2m2 : Method := { name := "began", desc := "(J)V", sig := { parameters := [.long], returnType := none }, accessFlags := 0, code := some k2c2 }
def k2c3 : Code := { maxStack := 5, maxLocals := 3, code := prog_29_method_5_code, exceptionTable := #[], attributes := #[] }
def k2m3 : Method := { name := "ended", desc := "(J)V", sig := { parameters := [.long], returnType := none }, accessFlags := 0, code := some k2c3 }
/-- com/example/headwater/headwater/connectors/ListingPace -/
def k2 : Class := { plain "com/example/headwater/headwater/connectors/ListingPace" (some 0) with
  accessFlags := 48
  interfaces := #[]
  cf := some (fileOf pool2 8 #[] #[{ accessFlags := 0, nameIndex := 5, descriptorIndex := 27, attributes := #[] }, { accessFlags := 0, nameIndex := 30, descriptorIndex := 31, attributes := #[] }, { accessFlags := 0, nameIndex := 15, descriptorIndex := 35, attributes := #[] }, { accessFlags := 0, nameIndex := 36, descriptorIndex := 35, attributes := #[] }] 48 2 #[] #[{ accessFlags := 24, nameIndex := 23, descriptorIndex := 12, attributes := #[] }, { accessFlags := 18, nameIndex := 11, descriptorIndex := 12, attributes := #[] }, { accessFlags := 2, nameIndex := 15, descriptorIndex := 12, attributes := #[] }, { accessFlags := 2, nameIndex := 18, descriptorIndex := 12, attributes := #[] }])
  fields := #[{ name := "RELISTING_FACTOR", type := .long, accessFlags := 24, slot := 0, constantValue := 0 }, { name := "factor", type := .long, accessFlags := 18, slot := 0, constantValue := 0 }, { name := "began", type := .long, accessFlags := 2, slot := 1, constantValue := 0 }, { name := "took", type := .long, accessFlags := 2, slot := 2, constantValue := 0 }]
  methods := #[k2m0, k2m1, k2m2, k2m3]
  instanceTypes := #[.long, .long, .long]
  staticTypes := #[.long]
  resolved := Array.replicate 39 none
  statics := none }

def pool3 : Array CpInfo := pool [(1, .class_ 2), (0, u "java/lang/Math"), (1, .class_ 6), (1, u "java/lang/Object"), (0, u "<init>"), (0, u "()V"), (89, .class_ 100), (1, u "java/lang/Math$RandomNumberGeneratorHolder"), (20, u "(JJ)J"), (50, u "negativeZeroFloatBits"), (0, u "J"), (2, u "negativeZeroDoubleBits"), (21, u "max"), (46, u "$assertionsDisabled"), (0, u "Z"), (91, u "twoToTheDoubleScaleDown"), (0, u "D"), (4, u "twoToTheDoubleScaleUp"), (9, u "E"), (3, u "PI"), (2, u "TAU"), (2, u "DEGREES_TO_RADIANS"), (0, u "RADIANS_TO_DEGREES")] 94

def k3m0 : Method := { name := "<init>", desc := "()V", sig := { parameters := [], returnType := none }, accessFlags := 2, code := none }
def k3c1 : Code := { maxStack := 4, maxLocals := 4, code := jdk_29_method_66_code, exceptionTable := #[], attributes := #[] }
def k3m1 : Method := { name := "max", desc := "(JJ)J", sig := { parameters := [.long, .long], returnType := some .long }, accessFlags := 9, code := some k3c1 }
/-- java/lang/Math -/
def k3 : Class := { plain "java/lang/Math" (some 0) with
  accessFlags := 49
  interfaces := #[]
  cf := some (fileOf pool3 1 #[.nestMembers #[98]] #[{ accessFlags := 2, nameIndex := 7, descriptorIndex := 8, attributes := #[] }, { accessFlags := 9, nameIndex := 198, descriptorIndex := 121, attributes := #[] }] 49 4 #[] #[{ accessFlags := 25, nameIndex := 354, descriptorIndex := 339, attributes := #[] }, { accessFlags := 25, nameIndex := 358, descriptorIndex := 339, attributes := #[] }, { accessFlags := 25, nameIndex := 361, descriptorIndex := 339, attributes := #[] }, { accessFlags := 26, nameIndex := 364, descriptorIndex := 339, attributes := #[] }, { accessFlags := 26, nameIndex := 365, descriptorIndex := 339, attributes := #[] }, { accessFlags := 26, nameIndex := 172, descriptorIndex := 173, attributes := #[] }, { accessFlags := 26, nameIndex := 176, descriptorIndex := 173, attributes := #[] }, { accessFlags := 8, nameIndex := 344, descriptorIndex := 339, attributes := #[] }, { accessFlags := 8, nameIndex := 338, descriptorIndex := 339, attributes := #[] }, { accessFlags := 4120, nameIndex := 245, descriptorIndex := 246, attributes := #[] }])
  fields := #[{ name := "E", type := .double, accessFlags := 25, slot := 0, constantValue := 0 }, { name := "PI", type := .double, accessFlags := 25, slot := 1, constantValue := 0 }, { name := "TAU", type := .double, accessFlags := 25, slot := 2, constantValue := 0 }, { name := "DEGREES_TO_RADIANS", type := .double, accessFlags := 26, slot := 3, constantValue := 0 }, { name := "RADIANS_TO_DEGREES", type := .double, accessFlags := 26, slot := 4, constantValue := 0 }, { name := "negativeZeroFloatBits", type := .long, accessFlags := 26, slot := 5, constantValue := 0 }, { name := "negativeZeroDoubleBits", type := .long, accessFlags := 26, slot := 6, constantValue := 0 }, { name := "twoToTheDoubleScaleUp", type := .double, accessFlags := 8, slot := 7, constantValue := 0 }, { name := "twoToTheDoubleScaleDown", type := .double, accessFlags := 8, slot := 8, constantValue := 0 }, { name := "$assertionsDisabled", type := .boolean, accessFlags := 4120, slot := 9, constantValue := 0 }]
  methods := #[k3m0, k3m1]
  instanceTypes := #[]
  staticTypes := #[.double, .double, .double, .double, .double, .long, .long, .double, .double, .boolean]
  resolved := Array.replicate 460 none
  statics := none }

def pool4 : Array CpInfo := pool [(1, u "java/lang/Cloneable"), (0, .class_ 1), (0, u "java/lang/Object"), (0, .class_ 3)] 3

/-- java/lang/Cloneable -/
def k4 : Class := { plain "java/lang/Cloneable" (some 0) with
  accessFlags := 1537
  interfaces := #[]
  cf := some (fileOf pool4 2 #[] #[] 1537 4 #[] #[])
  fields := #[]
  methods := #[]
  instanceTypes := #[]
  staticTypes := #[]
  resolved := Array.replicate 8 none
  statics := none }

def pool5 : Array CpInfo := pool [(1, u "java/io/Serializable"), (0, .class_ 1), (0, u "java/lang/Object"), (0, .class_ 3)] 3

/-- java/io/Serializable -/
def k5 : Class := { plain "java/io/Serializable" (some 0) with
  accessFlags := 1537
  interfaces := #[]
  cf := some (fileOf pool5 2 #[] #[] 1537 4 #[] #[])
  fields := #[]
  methods := #[]
  instanceTypes := #[]
  staticTypes := #[]
  resolved := Array.replicate 8 none
  statics := none }

/-- the primitive byte -/
def k6 : Class := { plain "byte" none with kind := .primitive 'B', accessFlags := 0x411 }
/-- [B -/
def k7 : Class := { plain "[B" (some 0) with kind := .array 6 .byte, interfaces := #[4, 5], accessFlags := 1041 }

/-- the primitive int -/
def k8 : Class := { plain "int" none with kind := .primitive 'I', accessFlags := 0x411 }
/-- [I -/
def k9 : Class := { plain "[I" (some 0) with kind := .array 8 .int, interfaces := #[4, 5], accessFlags := 1041 }

def heap : Heap := #[]
def classes : Array Class := #[k0, k1, k2, k3, k4, k5, k6, k7, k8, k9]
def interned : List (Array UInt16 × Addr) := []
def slotsUsed : Nat := 0
def theMethod : MethodId := ⟨1, 1⟩
def args0 : Array Value := #[.long 5, .long 3, .long 0, .long 7, .long 2, .int 9]
def aboutOver (below : List Frame) : State where
  vm := { classes := classes, interned := interned.toArray }
  heap := heap
  slotsUsed := slotsUsed
  threads := #[{ frames := .invoking theMethod args0 :: below }]
def below0 : List Frame := [.native { method := ⟨0, 0⟩, args := #[] }]
def about1 : State := aboutOver below0
def p0 : Program := .bare "" "" ""
def e0 : Env := launch0.env 0 0 0
theorem w_frames : about1.frames = Frame.invoking theMethod args0 :: below0 := rfl
set_option maxRecDepth 65536 in
theorem w_args : argsFit about1.vm theMethod args0 = true := by decide +kernel
set_option maxRecDepth 65536 in
theorem w_heap : heapFits about1 = true := by decide +kernel
set_option maxRecDepth 65536 in
theorem w_runnable : about1.curStatus? = some .runnable := by decide +kernel
set_option maxRecDepth 65536 in
theorem w_alone : about1.alone = true := by decide +kernel
set_option maxRecDepth 65536 in
theorem w_named : about1.methodNamed? x = some theMethod := by decide +kernel
set_option maxRecDepth 65536 in
theorem w_hears : about1.hears theMethod below0 = true := by decide +kernel
set_option maxRecDepth 65536 in
theorem w_ripe : about1.ripe theMethod args0 below0 = true := by decide +kernel
theorem w_running : about1.status = .running := rfl
set_option maxRecDepth 65536 in
theorem w_room : about1.hasRoom e0.platform room_1 = true :=
  launch0.hasRoom_least _ room_1 (by decide +kernel) (by decide +kernel) (by decide +kernel) (by decide +kernel) (by decide +kernel) (by decide +kernel)
theorem allAtoms_all (ts : List Jvm.Cond) (a : Array Jvm.Value) (st : Jvm.State) : (allAtoms ts).before a st = ts.all (fun c => c.before a st) := by
  induction ts with
  | nil => rfl
  | cons c t ih =>
    show (Jvm.Cond.and c (allAtoms t)).before a st = _
    rw [Jvm.Cond.before_and, ih, List.all_cons]
def words1 : List Jvm.Cond := Jvm.Cond.code x code maxLocals ret :: tables_1
/-- a 'code' word, met by the world's own term for the bytes: nothing is compared byte by byte -/
theorem code_word {y : MethodName} {bytes : ByteArray} {mx : Nat} {rt : Option FieldType} {a : Array Value} {s : State} {m : MethodId} {meth : Method} {c : Code} (h1 : s.methodNamed? y = some m) (h2 : s.vm.method? m = some meth) (h3 : meth.code = some c) (h4 : c.code = bytes)
    (h5 : (c.maxLocals == mx && c.exceptionTable.isEmpty && decide (c.maxStack ≤ mostOperands) && decide (meth.sig.returnType = rt) && !meth.locks && decide (parseMethodDescriptor y.desc = some meth.sig)) = true) : (Jvm.Cond.code y bytes mx rt).before a s = true := by
  simp only [Bool.and_eq_true, beq_iff_eq, Bool.not_eq_true', decide_eq_true_eq] at h5
  obtain ⟨⟨⟨⟨⟨g1, g2⟩, g3⟩, g4⟩, g5⟩, g6⟩ := h5
  simp [Cond.before, Cond.holds, Cond.value, h1, h2, h3, h4, g1, g2, g3, g4, g5, g6]
def isCode : Jvm.Cond → Bool
  | .code _ _ _ _ => true
  | _ => false
theorem all_split {L : List Jvm.Cond} {P : Jvm.Cond → Bool} (h1 : L.all (fun c => isCode c || P c) = true) (h2 : ∀ c ∈ L.filter isCode, P c = true) : L.all P = true := by
  refine List.all_eq_true.mpr fun c hc => ?_
  have h := List.all_eq_true.mp h1 c hc
  rcases Bool.eq_false_or_eq_true (isCode c) with hi | hi
  · exact h2 c (List.mem_filter.mpr ⟨hc, hi⟩)
  · simpa [hi] using h
set_option maxRecDepth 65536 in
theorem w_c0 : (Jvm.Cond.code x code maxLocals ret).before args0 about1 = true := code_word (m := ⟨1, 1⟩) (meth := k1m1) (c := k1c1) (by decide +kernel) rfl rfl rfl (by decide +kernel)
set_option maxRecDepth 65536 in
theorem w_c1 : (Jvm.Cond.code ({ cls := "com/example/headwater/headwater/connectors/ListingPace", name := "<init>", desc := "(JJ)V" } : Jvm.MethodName) prog_29_method_1_code (5 : Nat) (Option.none : Option Jvm.ClassFile.FieldType)).before args0 about1 = true := code_word (m := ⟨2, 0⟩) (meth := k2m0) (c := k2c0) (by decide +kernel) rfl rfl rfl (by decide +kernel)
set_option maxRecDepth 65536 in
theorem w_c2 : (Jvm.Cond.code ({ cls := "java/lang/Object", name := "<init>", desc := "()V" } : Jvm.MethodName) object_method_1_code (1 : Nat) (Option.none : Option Jvm.ClassFile.FieldType)).before args0 about1 = true := code_word (m := ⟨0, 0⟩) (meth := k0m0) (c := k0c0) (by decide +kernel) rfl rfl rfl (by decide +kernel)
set_option maxRecDepth 65536 in
theorem w_c3 : (Jvm.Cond.code ({ cls := "com/example/headwater/headwater/connectors/ListingPace", name := "ended", desc := "(J)V" } : Jvm.MethodName) prog_29_method_5_code (3 : Nat) (Option.none : Option Jvm.ClassFile.FieldType)).before args0 about1 = true := code_word (m := ⟨2, 3⟩) (meth := k2m3) (c := k2c3) (by decide +kernel) rfl rfl rfl (by decide +kernel)
set_option maxRecDepth 65536 in
theorem w_c4 : (Jvm.Cond.code ({ cls := "com/example/headwater/headwater/connectors/ListingPace", name := "allows", desc := "(J)Z" } : Jvm.MethodName) prog_29_method_2_code (3 : Nat) (Option.some Jvm.ClassFile.FieldType.boolean)).before args0 about1 = true := code_word (m := ⟨2, 1⟩) (meth := k2m1) (c := k2c1) (by decide +kernel) rfl rfl rfl (by decide +kernel)
set_option maxRecDepth 65536 in
theorem w_c5 : (Jvm.Cond.code ({ cls := "com/example/headwater/headwater/connectors/ListingPaceAllowsPinLaw", name := "expected", desc := "(JJJ)Z" } : Jvm.MethodName) method_3_code (6 : Nat) (Option.some Jvm.ClassFile.FieldType.boolean)).before args0 about1 = true := code_word (m := ⟨1, 2⟩) (meth := k1m2) (c := k1c2) (by decide +kernel) rfl rfl rfl (by decide +kernel)
set_option maxRecDepth 65536 in
theorem w_c6 : (Jvm.Cond.code ({ cls := "java/lang/Math", name := "max", desc := "(JJ)J" } : Jvm.MethodName) jdk_29_method_66_code (4 : Nat) (Option.some Jvm.ClassFile.FieldType.long)).before args0 about1 = true := code_word (m := ⟨3, 1⟩) (meth := k3m1) (c := k3c1) (by decide +kernel) rfl rfl rfl (by decide +kernel)
set_option maxRecDepth 65536 in
theorem w_c7 : (Jvm.Cond.code ({ cls := "com/example/headwater/headwater/connectors/ListingPace", name := "began", desc := "(J)V" } : Jvm.MethodName) prog_29_method_4_code (3 : Nat) (Option.none : Option Jvm.ClassFile.FieldType)).before args0 about1 = true := code_word (m := ⟨2, 2⟩) (meth := k2m2) (c := k2c2) (by decide +kernel) rfl rfl rfl (by decide +kernel)
def codes1 : List Jvm.Cond := [Jvm.Cond.code x code maxLocals ret, Jvm.Cond.code ({ cls := "com/example/headwater/headwater/connectors/ListingPace", name := "<init>", desc := "(JJ)V" } : Jvm.MethodName) prog_29_method_1_code (5 : Nat) (Option.none : Option Jvm.ClassFile.FieldType), Jvm.Cond.code ({ cls := "java/lang/Object", name := "<init>", desc := "()V" } : Jvm.MethodName) object_method_1_code (1 : Nat) (Option.none : Option Jvm.ClassFile.FieldType), Jvm.Cond.code ({ cls := "com/example/headwater/headwater/connectors/ListingPace", name := "ended", desc := "(J)V" } : Jvm.MethodName) prog_29_method_5_code (3 : Nat) (Option.none : Option Jvm.ClassFile.FieldType), Jvm.Cond.code ({ cls := "com/example/headwater/headwater/connectors/ListingPace", name := "allows", desc := "(J)Z" } : Jvm.MethodName) prog_29_method_2_code (3 : Nat) (Option.some Jvm.ClassFile.FieldType.boolean), Jvm.Cond.code ({ cls := "com/example/headwater/headwater/connectors/ListingPaceAllowsPinLaw", name := "expected", desc := "(JJJ)Z" } : Jvm.MethodName) method_3_code (6 : Nat) (Option.some Jvm.ClassFile.FieldType.boolean), Jvm.Cond.code ({ cls := "java/lang/Math", name := "max", desc := "(JJ)J" } : Jvm.MethodName) jdk_29_method_66_code (4 : Nat) (Option.some Jvm.ClassFile.FieldType.long), Jvm.Cond.code ({ cls := "com/example/headwater/headwater/connectors/ListingPace", name := "began", desc := "(J)V" } : Jvm.MethodName) prog_29_method_4_code (3 : Nat) (Option.none : Option Jvm.ClassFile.FieldType)]
set_option maxRecDepth 65536 in
theorem codes_eq : words1.filter isCode = codes1 := rfl
theorem w_codes : ∀ c ∈ words1.filter isCode, c.before args0 about1 = true := by
  rw [codes_eq]
  intro c hc
  simp only [codes1, List.mem_cons, List.not_mem_nil, or_false] at hc
  rcases hc with rfl | rfl | rfl | rfl | rfl | rfl | rfl | rfl
  · exact w_c0
  · exact w_c1
  · exact w_c2
  · exact w_c3
  · exact w_c4
  · exact w_c5
  · exact w_c6
  · exact w_c7
set_option maxRecDepth 65536 in
theorem w_t1 : (words1.take 24).all (fun c => isCode c || c.before args0 about1) = true := by decide +kernel
set_option maxRecDepth 65536 in
theorem w_t2 : (words1.drop 24).all (fun c => isCode c || c.before args0 about1) = true := by decide +kernel
theorem w_tables : (allAtoms (Jvm.Cond.code x code maxLocals ret :: tables_1)).before args0 about1 = true := by
  rw [allAtoms_all]
  show words1.all (fun c => c.before args0 about1) = true
  refine all_split ?_ w_codes
  rw [← List.take_append_drop 24 words1, List.all_append, w_t1, w_t2]
  rfl
set_option maxRecDepth 65536 in
theorem w_case : (Jvm.Cond.and given_1 narrow_1).before args0 about1 = true := by decide +kernel
theorem w_applies : (headSpec (Jvm.Cond.code x code maxLocals ret :: tables_1) room_1).applies x e0.platform about1 = true :=
  (Spec.applies_iff w_frames).mpr ⟨w_running, w_runnable, w_alone, w_named, w_hears, w_ripe, w_room, w_tables⟩
theorem atStart : AtStart classFile x code maxLocals ret World_1 tables_1 room_1 Calls_1 rest_1 Pre_1 launch0 p0 e0 about1 theMethod args0 below0 :=
  ⟨lists_1, trivial, launch0.admits_env _ _ _, launch0.least_env, fairChoices_fair.cas, fairChoices_fair.clock, w_frames, w_args, w_heap, w_applies, trivial, trivial, w_case⟩
end start1
theorem witness_1 : WitnessClaimed_1 := ⟨start1.p0, start1.e0, start1.about1, start1.theMethod, start1.args0, start1.below0, start1.atStart⟩
end Jvm.Pilot.@@N@@
